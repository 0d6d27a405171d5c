import PyProof.Rows.All
import Wide.All
import OpenK.AllK
import Wide.FinOn
import PySem.Challenge.RW_un0065_01
open PySem PySem.W PyProof.Rows
set_option Elab.async false
set_option maxRecDepth 100000
set_option maxHeartbeats 0
set_option compiler.extract_closed false
namespace Mine
open_top hd for PySem.Challenge.rw_un0065_01
end Mine
namespace Mine
example : hd.heap_39 = hd.heap_39 ∨ PySem.Challenge.rw_un0065_01.Holds := by
  w_top off
  k_fill
  exact .inl rfl
end Mine
namespace Mine
/-- a block of one statement: no layer about what is to come -/
theorem execs_one {M : Model} {A : Around} {st : Stmt} {env : Env} {Q : Flow → Shared → Prop} {E : Value → Shared → Prop} {s : Shared} (h : wpAny M A (exec st env) Q E s) : wpAny M A (execs [st] env) Q E s :=
  wpAny_execs_cons (wpAny_mono h (fun f s' hf => by
    cases f with
    | next => exact wpAny_execs_nil hf
    | brk => exact hf
    | cont => exact hf
    | ret v => exact hf) fun _ _ e => e)
end Mine
namespace Mine
def Hold (P : Prop) : Prop := P
theorem hold_intro {P : Prop} (h : Hold P) : P := h
theorem hold_elim {P : Prop} (h : P) : Hold P := h
theorem all_ne_of_lt {news : List (Addr × Obj)} {L d : Addr} (h : ∀ p ∈ news, p.1 < L) (hd : L ≤ d) : ∀ p ∈ news, p.1 ≠ d := fun p hp e => by have := h p hp; rw [e] at this; exact absurd (Nat.lt_of_lt_of_le this hd) (Nat.lt_irrefl _)
end Mine
namespace Mine
def upd (l : Addr) (o : Obj) (news : List (Addr × Obj)) : List (Addr × Obj) := news.map fun p => if p.1 = l then (l, o) else p
theorem mem_upd_self {l : Addr} {o o' : Obj} {news : List (Addr × Obj)} (h : (l, o) ∈ news) : (l, o') ∈ upd l o' news := by
  unfold upd
  rw [List.mem_map]
  exact ⟨_, h, by simp⟩
theorem mem_upd {l a : Addr} {o o' : Obj} {news : List (Addr × Obj)} (h : (a, o) ∈ news) (hne : a ≠ l) : (a, o) ∈ upd l o' news := by
  unfold upd
  rw [List.mem_map]
  exact ⟨_, h, by simp [hne]⟩
theorem news_upd {h₀ h h' : Heap} {L l : Addr} {o o' : Obj} {news : List (Addr × Obj)} (N : News h₀ L h news) (hl : (l, o) ∈ news) (hs : Heap.SameBut l h h') (ho : h'.get? l = some o') : News h₀ L h' (upd l o' news) := by
  intro p hp
  unfold upd at hp
  rw [List.mem_map] at hp
  obtain ⟨q, hq, rfl⟩ := hp
  by_cases e : q.1 = l
  · rw [if_pos e]
    exact ⟨ho, (N _ hl).2⟩
  · rw [if_neg e]
    exact ⟨(hs.2 _ e).trans (N _ hq).1, (N _ hq).2⟩
theorem news_ne {h₀ h : Heap} {L a b : Addr} {o₁ o₂ : Obj} {news : List (Addr × Obj)} (N : News h₀ L h news) (h1 : (a, o₁) ∈ news) (h2 : (b, o₂) ∈ news) (hne : o₁.cls ≠ o₂.cls) : a ≠ b := by
  rintro rfl
  have e1 := (N _ h1).1
  rw [(N _ h2).1] at e1
  exact hne (congrArg Obj.cls (Option.some.inj e1).symm)
theorem news_mono {h₀ h : Heap} {L : Addr} {news news' : List (Addr × Obj)} (N : News h₀ L h news) (hs : ∀ p ∈ news', p ∈ news) : News h₀ L h news' := fun p hp => N p (hs p hp)

theorem cons_sub {p : Addr × Obj} {a b : List (Addr × Obj)} (h : p ∈ b) (hs : ∀ q ∈ a, q ∈ b) : ∀ q ∈ p :: a, q ∈ b := fun q hq => (List.mem_cons.mp hq).elim (fun e => e ▸ h) (hs q)
section
variable {prog : Program} {w : World} {A : Around} {E : Value → Shared → Prop} {s : Shared} {h₀ : Heap} {L l : Addr} {m : Str → Option Value} {news : List (Addr × Obj)}
theorem append_L {its : Array Value} {n : Nat} {x : Value} {Q : Value → Shared → Prop} (F : Fr h₀ L s.heap m) (N : News h₀ L s.heap news) (hl : (l, listOf its n) ∈ news)
    (h : ∀ h', Fr h₀ L h' m → News h₀ L h' (upd l (listOf (its.push x) (n + 1)) news) → Q .none { s with heap := h' }) (hsz : its.size ≤ sizeLine) : wpAny (model prog w) A (call (.builtin "list.append") [.ref l, x]) Q E s := by
  have z := N _ hl
  exact append_at (hsz := hsz) z.1 fun h' hs ho' => h h' (F.change hs z.2.1 z.2.2) (news_upd N hl hs ho')
end
end Mine
namespace Mine
open PySem PySem.W PyProof.Rows PySem.Builtin PySem.Builtin.Re
theorem slot_search : Slot "re.Pattern" "search" "re.Pattern.search" :=
  .of (owner := "re.Pattern") (n := "search") (by rw [typeLookup_type, builtinLookup_eq_fast]; kernel_rfl) (by decide +kernel) (by decide +kernel) (by decide +kernel)
    (by first | exact .inl (by decide +kernel) | exact .inr (by decide +kernel)) (by rw [isSubtype_type]; kernel_rfl)
theorem entry_search : entryFor table "re.Pattern.search" = some Builtin.«re.Pattern.search» := entryFor_of_tree (by kernel_rfl)
theorem args_search (a b : Value) : argsOk "re.Pattern.search" ⟨[a, b], []⟩ := by unfold argsOk; kernel_rfl
theorem type_search : typeOf (.builtin "re.Pattern.search") = pure (.type "method_descriptor") := by show builtinType _ = _; rw [builtinType_eq_fast]; kernel_rfl
theorem plain_pattern : PlainAttrs "re.Pattern" :=
  ⟨⟨"object.__getattribute__", by rw [typeLookup_type, builtinLookup_eq_fast]; kernel_rfl, by decide +kernel⟩, by rw [typeLookup_type, builtinLookup_eq_fast]; kernel_rfl⟩
#print axioms slot_search
#print axioms plain_pattern
end Mine
namespace Mine
open PySem PySem.W PyProof.Rows PySem.Builtin PySem.Builtin.Re

def isCtlN (c : Nat) : Bool := (decide (0 ≤ c) && decide (c ≤ 31)) || c == 127
def codeN : Array Nat := #[14, 10, 4, 1, 1, 22, 0, 31, 16, 127, 0, 13, 7, 22, 0, 31, 16, 127, 0, 1]
def codeV : Array Nat := #[14, 14, 4, 1, 1, 9, 4294966783, 0, 0, 2147483648, 0, 0, 0, 0, 0, 13, 11, 9, 4294966783, 0, 0, 2147483648, 0, 0, 0, 0, 0, 1]
def isCtlV (c : Nat) : Bool := decide (c < 256) && (codeV.getD (5 + (1 + c / 32)) 0).testBit (c % 32)

theorem inSetN5' (c : Nat) (seen : Sre.Seen) : Sre.inSet codeN c 20 5 true seen = if (decide (0 ≤ c) && decide (c ≤ 31)) = true then .ok (true, seen.add 22) else if (c == 127) = true then .ok (true, (seen.add 22).add 16) else .ok (false, ((seen.add 22).add 16).add 0) := by kernel_rfl
theorem inSetN13' (c : Nat) (seen : Sre.Seen) : Sre.inSet codeN c 20 13 true seen = if (decide (0 ≤ c) && decide (c ≤ 31)) = true then .ok (true, seen.add 22) else if (c == 127) = true then .ok (true, (seen.add 22).add 16) else .ok (false, ((seen.add 22).add 16).add 0) := by kernel_rfl
theorem inSetV5' (c : Nat) (seen : Sre.Seen) : Sre.inSet codeV c 28 5 true seen = if (decide (c < 256) && (codeV.getD (5 + (1 + c / 32)) 0).testBit (c % 32)) = true then .ok (true, seen.add 9) else .ok (false, (seen.add 9).add 0) := by kernel_rfl
theorem inSetV17' (c : Nat) (seen : Sre.Seen) : Sre.inSet codeV c 28 17 true seen = if (decide (c < 256) && (codeV.getD (17 + (1 + c / 32)) 0).testBit (c % 32)) = true then .ok (true, seen.add 9) else .ok (false, (seen.add 9).add 0) := by kernel_rfl
theorem inSetN5 (c : Nat) (seen : Sre.Seen) : ∃ seen', Sre.inSet codeN c codeN.size 5 true seen = .ok (isCtlN c, seen') := by
  have e := inSetN5' c seen
  unfold isCtlN
  cases h1 : (decide (0 ≤ c) && decide (c ≤ 31)) <;> cases h2 : (c == 127) <;> rw [h1, h2] at e <;> exact ⟨_, e⟩
theorem inSetN13 (c : Nat) (seen : Sre.Seen) : ∃ seen', Sre.inSet codeN c codeN.size 13 true seen = .ok (isCtlN c, seen') := by
  have e := inSetN13' c seen
  unfold isCtlN
  cases h1 : (decide (0 ≤ c) && decide (c ≤ 31)) <;> cases h2 : (c == 127) <;> rw [h1, h2] at e <;> exact ⟨_, e⟩
theorem inSetV5 (c : Nat) (seen : Sre.Seen) : ∃ seen', Sre.inSet codeV c codeV.size 5 true seen = .ok (isCtlV c, seen') := by
  have e := inSetV5' c seen
  unfold isCtlV
  cases h1 : (decide (c < 256) && (codeV.getD (5 + (1 + c / 32)) 0).testBit (c % 32)) <;> rw [h1] at e <;> exact ⟨_, e⟩
theorem v17 (c : Nat) (h : c < 256) : codeV.getD (17 + (1 + c / 32)) 0 = codeV.getD (5 + (1 + c / 32)) 0 := by
  have h2 : c / 32 < 8 := by omega
  generalize c / 32 = k at h2
  revert k
  decide
theorem inSetV17 (c : Nat) (seen : Sre.Seen) : ∃ seen', Sre.inSet codeV c codeV.size 17 true seen = .ok (isCtlV c, seen') := by
  have e := inSetV17' c seen
  unfold isCtlV
  by_cases hc : c < 256
  · rw [v17 c hc] at e
    cases h1 : (decide (c < 256) && (codeV.getD (5 + (1 + c / 32)) 0).testBit (c % 32)) <;> rw [h1] at e <;> exact ⟨_, e⟩
  · have : decide (c < 256) = false := decide_eq_false hc
    rw [this, Bool.false_and] at e ⊢
    exact ⟨_, e⟩

/-- a code: its first set at 5, its one set at q, success behind -/
structure OneSet (code : Array Nat) (q : Nat) (ctl : Nat → Bool) : Prop where
  first : ∀ c seen, ∃ seen', Sre.inSet code c code.size 5 true seen = .ok (ctl c, seen')
  body : ∀ c seen, ∃ seen', Sre.inSet code c code.size (q + 2) true seen = .ok (ctl c, seen')
theorem oneN : OneSet codeN 11 isCtlN := ⟨inSetN5, inSetN13⟩
theorem oneV : OneSet codeV 15 isCtlV := ⟨inSetV5, inSetV17⟩

theorem admitted_none {code : Array Nat} {q : Nat} {ctl : Nat → Bool} (O : OneSet code q ctl) (m : Sre.M) (hm : m.code = code) : ∀ fuel s seen, (∀ i, s ≤ i → i < m.lim → ctl (m.text.getD i 0) = false) → ∃ seen', Sre.M.admitted m fuel s seen = .ok (none, seen')
  | 0, s, seen, _ => ⟨seen, rfl⟩
  | fuel + 1, s, seen, h => by
    unfold Sre.M.admitted
    by_cases hs : s ≥ m.lim
    · rw [if_pos hs]; exact ⟨_, rfl⟩
    · rw [if_neg hs, hm]
      obtain ⟨seen', e⟩ := O.first (m.text.getD s 0) seen
      rw [e, h s (Nat.le_refl _) (by omega)]
      exact admitted_none O m hm fuel (s + 1) seen' fun i hi => h i (by omega)
theorem admitted_some {code : Array Nat} {q : Nat} {ctl : Nat → Bool} (O : OneSet code q ctl) (m : Sre.M) (hm : m.code = code) : ∀ fuel s seen, m.lim - s < fuel → (∃ i, s ≤ i ∧ i < m.lim ∧ ctl (m.text.getD i 0) = true) → ∃ k seen', Sre.M.admitted m fuel s seen = .ok (some k, seen') ∧ k < m.lim ∧ ctl (m.text.getD k 0) = true
  | 0, s, seen, hf, _ => by omega
  | fuel + 1, s, seen, hf, ⟨i, h1, h2, h3⟩ => by
    unfold Sre.M.admitted
    rw [if_neg (by omega), hm]
    obtain ⟨seen', e⟩ := O.first (m.text.getD s 0) seen
    rw [e]
    cases hc : ctl (m.text.getD s 0) with
    | true => exact ⟨s, seen', rfl, by omega, hc⟩
    | false =>
      refine admitted_some O m hm fuel (s + 1) seen' (by omega) ⟨i, ?_, h2, h3⟩
      rcases Nat.eq_or_lt_of_le h1 with rfl | h1
      · rw [hc] at h3; cases h3
      · exact h1
end Mine
namespace Mine
open PySem PySem.W PyProof.Rows PySem.Builtin PySem.Builtin.Re

theorem run_failed (m : Sre.M) (ha : m.answer = some false) (hf : m.frames = []) (ho : m.outcome = none) : (m.runFor 4).outcome = some .failed := by
  have e : m.step = { m with outcome := some .failed } := by
    unfold Sre.M.step
    rw [ho, ha, hf]; rfl
  unfold Sre.M.runFor
  rw [ho, e]
  rfl

/-- what the machine does with a code of one set -/
structure OneCode (code : Array Nat) (q : Nat) (ctl : Nat → Bool) : Prop extends OneSet code q ctl where
  sz : q + 8 ≤ code.size ∨ q + 8 ≤ code.size
  start : ∀ t lim, ∃ m : Sre.M, m.code = code ∧ m.text = t ∧ m.lim = lim ∧ m.answer = none ∧ m.frames = [] ∧ m.outcome = none ∧ m.pc = q ∧ m.wholeText = false ∧ m.weight = 0 ∧ m.mustAdvance = false ∧
    Sre.forSearch code t 0 0 lim false = if (decide (0 > lim) || decide (lim - 0 < 1)) = true then m.say false else (match Sre.M.admitted m (m.lim + 1 - 0) 0 m.seen with
      | .ok (some s, seen) => { m with mustAdvance := false, seen := seen }.attemptAt s true
      | .ok (none, seen) => { m with seen := seen }.say false
      | .error why => m.stick why)

theorem startN (t : Array Nat) (lim : Nat) : ∃ m : Sre.M, m.code = codeN ∧ m.text = t ∧ m.lim = lim ∧ m.answer = none ∧ m.frames = [] ∧ m.outcome = none ∧ m.pc = 11 ∧ m.wholeText = false ∧ m.weight = 0 ∧ m.mustAdvance = false ∧
    Sre.forSearch codeN t 0 0 lim false = if (decide (0 > lim) || decide (lim - 0 < 1)) = true then m.say false else (match Sre.M.admitted m (m.lim + 1 - 0) 0 m.seen with
      | .ok (some s, seen) => { m with mustAdvance := false, seen := seen }.attemptAt s true
      | .ok (none, seen) => { m with seen := seen }.say false
      | .error why => m.stick why) := by
  by_cases h : lim < 1
  · have : lim = 0 := by omega
    subst this
    exact ⟨{ code := codeN, text := t, lim := 0, start := 0, pc := 11, pos := 0, handed := 0, marks := #[], seen := ({} : Sre.Seen).add 14 }, rfl, rfl, rfl, rfl, rfl, rfl, rfl, rfl, rfl, rfl, rfl⟩
  · refine ⟨{ code := codeN, text := t, lim := lim, start := 0, pc := 11, pos := 0, handed := 0, marks := #[], lastStart := lim, seen := ({} : Sre.Seen).add 14 }, rfl, rfl, rfl, rfl, rfl, rfl, rfl, rfl, rfl, rfl, ?_⟩
    have e : (decide (0 > lim) || decide (lim - 0 < 1)) = false := by simp; omega
    unfold Sre.forSearch
    rw [e]
    exact (if_neg (by show ¬ (decide (0 > lim) || decide (lim - 0 < 1)) = true; rw [e]; decide)).trans rfl
theorem startV (t : Array Nat) (lim : Nat) : ∃ m : Sre.M, m.code = codeV ∧ m.text = t ∧ m.lim = lim ∧ m.answer = none ∧ m.frames = [] ∧ m.outcome = none ∧ m.pc = 15 ∧ m.wholeText = false ∧ m.weight = 0 ∧ m.mustAdvance = false ∧
    Sre.forSearch codeV t 0 0 lim false = if (decide (0 > lim) || decide (lim - 0 < 1)) = true then m.say false else (match Sre.M.admitted m (m.lim + 1 - 0) 0 m.seen with
      | .ok (some s, seen) => { m with mustAdvance := false, seen := seen }.attemptAt s true
      | .ok (none, seen) => { m with seen := seen }.say false
      | .error why => m.stick why) := by
  by_cases h : lim < 1
  · have : lim = 0 := by omega
    subst this
    exact ⟨{ code := codeV, text := t, lim := 0, start := 0, pc := 15, pos := 0, handed := 0, marks := #[], seen := ({} : Sre.Seen).add 14 }, rfl, rfl, rfl, rfl, rfl, rfl, rfl, rfl, rfl, rfl, rfl⟩
  · refine ⟨{ code := codeV, text := t, lim := lim, start := 0, pc := 15, pos := 0, handed := 0, marks := #[], lastStart := lim, seen := ({} : Sre.Seen).add 14 }, rfl, rfl, rfl, rfl, rfl, rfl, rfl, rfl, rfl, rfl, ?_⟩
    have e : (decide (0 > lim) || decide (lim - 0 < 1)) = false := by simp; omega
    unfold Sre.forSearch
    rw [e]
    exact (if_neg (by show ¬ (decide (0 > lim) || decide (lim - 0 < 1)) = true; rw [e]; decide)).trans rfl
end Mine
namespace Mine
open PySem PySem.W PyProof.Rows PySem.Builtin PySem.Builtin.Re

theorem stepsN (t : Array Nat) (lim s : Nat) (hs : s < lim) (hc : isCtlN (t.getD s 0) = true) (m : Sre.M) (h1 : m.code = codeN) (h2 : m.text = t) (h3 : m.lim = lim) (h4 : m.answer = none) (h5 : m.outcome = none) (h6 : m.pc = 11) (h7 : m.pos = s)
    (h8 : m.wholeText = false) (h9 : m.mustAdvance = false) (f : Sre.Frame) (h10 : m.frames = [f]) (h11 : f.wait = .nextStart) : (m.runFor 4).outcome = some .matched := by
  obtain ⟨code, text, li, start, ls, wt, ma, pc, pos, hd, om, mk, lm, lx, lo, inn, fr, we, an, sn, oc⟩ := m
  dsimp only at *
  subst h1 h2 h3 h4 h5 h6 h7 h8 h9 h10
  obtain ⟨seen', e⟩ := inSetN13 (text.getD pos 0) (sn.add 13)
  rw [hc] at e
  have s1 : Sre.M.step ⟨codeN, text, li, start, ls, false, false, 11, pos, hd, om, mk, lm, lx, lo, inn, [f], we, none, sn, none⟩ = ⟨codeN, text, li, start, ls, false, false, 19, pos + 1, hd, om, mk, lm, lx, lo, inn, [f], we, none, seen', none⟩ := by
    show (if pos ≥ li then _ else match Sre.inSet codeN (text.getD pos 0) codeN.size 13 true (sn.add 13) with | .error why => _ | .ok (false, seen) => _ | .ok (true, seen) => _) = _
    rw [if_neg (by omega), e]
    rfl
  have s2 : Sre.M.step ⟨codeN, text, li, start, ls, false, false, 19, pos + 1, hd, om, mk, lm, lx, lo, inn, [f], we, none, seen', none⟩ = ⟨codeN, text, li, start, ls, false, false, 19, pos + 1, pos + 1, om, mk, lm, lx, lo, inn, [f], we, some true, seen'.add 1, none⟩ := by
    show (if (om && ((false && _) || (false && _))) = true then _ else _) = _
    rw [if_neg (by simp)]
    rfl
  obtain ⟨fw, fpc, fpos, fo, fc, fk, fl, fb⟩ := f
  dsimp only at h11
  subst h11
  unfold Sre.M.runFor
  rw [if_neg (by exact Bool.false_ne_true), s1]
  unfold Sre.M.runFor
  rw [if_neg (by exact Bool.false_ne_true), s2]
  rfl
theorem stepsV (t : Array Nat) (lim s : Nat) (hs : s < lim) (hc : isCtlV (t.getD s 0) = true) (m : Sre.M) (h1 : m.code = codeV) (h2 : m.text = t) (h3 : m.lim = lim) (h4 : m.answer = none) (h5 : m.outcome = none) (h6 : m.pc = 15) (h7 : m.pos = s)
    (h8 : m.wholeText = false) (h9 : m.mustAdvance = false) (f : Sre.Frame) (h10 : m.frames = [f]) (h11 : f.wait = .nextStart) : (m.runFor 4).outcome = some .matched := by
  obtain ⟨code, text, li, start, ls, wt, ma, pc, pos, hd, om, mk, lm, lx, lo, inn, fr, we, an, sn, oc⟩ := m
  dsimp only at *
  subst h1 h2 h3 h4 h5 h6 h7 h8 h9 h10
  obtain ⟨seen', e⟩ := inSetV17 (text.getD pos 0) (sn.add 13)
  rw [hc] at e
  have s1 : Sre.M.step ⟨codeV, text, li, start, ls, false, false, 15, pos, hd, om, mk, lm, lx, lo, inn, [f], we, none, sn, none⟩ = ⟨codeV, text, li, start, ls, false, false, 27, pos + 1, hd, om, mk, lm, lx, lo, inn, [f], we, none, seen', none⟩ := by
    show (if pos ≥ li then _ else match Sre.inSet codeV (text.getD pos 0) codeV.size 17 true (sn.add 13) with | .error why => _ | .ok (false, seen) => _ | .ok (true, seen) => _) = _
    rw [if_neg (by omega), e]
    rfl
  have s2 : Sre.M.step ⟨codeV, text, li, start, ls, false, false, 27, pos + 1, hd, om, mk, lm, lx, lo, inn, [f], we, none, seen', none⟩ = ⟨codeV, text, li, start, ls, false, false, 27, pos + 1, pos + 1, om, mk, lm, lx, lo, inn, [f], we, some true, seen'.add 1, none⟩ := by
    show (if (om && ((false && _) || (false && _))) = true then _ else _) = _
    rw [if_neg (by simp)]
    rfl
  obtain ⟨fw, fpc, fpos, fo, fc, fk, fl, fb⟩ := f
  dsimp only at h11
  subst h11
  unfold Sre.M.runFor
  rw [if_neg (by exact Bool.false_ne_true), s1]
  unfold Sre.M.runFor
  rw [if_neg (by exact Bool.false_ne_true), s2]
  rfl
def ctlIn (ctl : Nat → Bool) (t : Array Nat) : Bool := t.any ctl
theorem ctlIn_false {ctl : Nat → Bool} {t : Array Nat} (h : ctlIn ctl t = false) (i : Nat) (hi : i < t.size) : ctl (t.getD i 0) = false := by
  unfold ctlIn at h
  rw [Array.any_eq_false] at h
  have := h i hi
  rw [Array.getD_eq_getD_getElem?, Array.getElem?_eq_getElem hi]
  simpa using this
theorem ctlIn_true {ctl : Nat → Bool} {t : Array Nat} (h : ctlIn ctl t = true) : ∃ i, i < t.size ∧ ctl (t.getD i 0) = true := by
  unfold ctlIn at h
  rw [Array.any_eq_true] at h
  obtain ⟨i, hi, e⟩ := h
  exact ⟨i, hi, by rw [Array.getD_eq_getD_getElem?, Array.getElem?_eq_getElem hi]; simpa using e⟩
theorem outN (t : Array Nat) : ((Sre.forSearch codeN t 0 0 t.size false).runFor 4).outcome = some (if ctlIn isCtlN t then .matched else .failed) := by
  obtain ⟨m, h1, h2, h3, h4, h5, h6, h7, h8, h9, h10, e⟩ := startN t t.size
  rw [e]
  cases hc : ctlIn isCtlN t with
  | false =>
    rw [if_neg Bool.false_ne_true]
    split
    · exact run_failed _ rfl h5 h6
    · obtain ⟨sn, q⟩ := admitted_none oneN m h1 (m.lim + 1 - 0) 0 m.seen (fun i _ hi => by rw [h2]; exact ctlIn_false hc i (by rw [h3] at hi; exact hi))
      rw [q]
      exact run_failed _ rfl h5 h6
  | true =>
    obtain ⟨i, hi, hci⟩ := ctlIn_true hc
    rw [if_pos rfl, if_neg (by rw [Bool.or_eq_true, decide_eq_true_eq, decide_eq_true_eq]; omega)]
    obtain ⟨k, sn, q, hk, hck⟩ := admitted_some oneN m h1 (m.lim + 1 - 0) 0 m.seen (by omega) ⟨i, Nat.zero_le _, by rw [h3]; exact hi, by rw [h2]; exact hci⟩
    rw [q]
    dsimp only
    unfold Sre.M.attemptAt Sre.M.attempt
    rw [if_neg (by show ¬ (m.weight + 1 + 0 > 16777216); rw [h9]; decide)]
    exact stepsN t t.size k (h3 ▸ hk) (h2 ▸ hck) _ h1 h2 h3 h4 h6 h7 rfl h8 rfl _ (by show _ :: m.frames = _; rw [h5]) rfl
theorem outV (t : Array Nat) : ((Sre.forSearch codeV t 0 0 t.size false).runFor 4).outcome = some (if ctlIn isCtlV t then .matched else .failed) := by
  obtain ⟨m, h1, h2, h3, h4, h5, h6, h7, h8, h9, h10, e⟩ := startV t t.size
  rw [e]
  cases hc : ctlIn isCtlV t with
  | false =>
    rw [if_neg Bool.false_ne_true]
    split
    · exact run_failed _ rfl h5 h6
    · obtain ⟨sn, q⟩ := admitted_none oneV m h1 (m.lim + 1 - 0) 0 m.seen (fun i _ hi => by rw [h2]; exact ctlIn_false hc i (by rw [h3] at hi; exact hi))
      rw [q]
      exact run_failed _ rfl h5 h6
  | true =>
    obtain ⟨i, hi, hci⟩ := ctlIn_true hc
    rw [if_pos rfl, if_neg (by rw [Bool.or_eq_true, decide_eq_true_eq, decide_eq_true_eq]; omega)]
    obtain ⟨k, sn, q, hk, hck⟩ := admitted_some oneV m h1 (m.lim + 1 - 0) 0 m.seen (by omega) ⟨i, Nat.zero_le _, by rw [h3]; exact hi, by rw [h2]; exact hci⟩
    rw [q]
    dsimp only
    unfold Sre.M.attemptAt Sre.M.attempt
    rw [if_neg (by show ¬ (m.weight + 1 + 0 > 16777216); rw [h9]; decide)]
    exact stepsV t t.size k (h3 ▸ hk) (h2 ▸ hck) _ h1 h2 h3 h4 h6 h7 rfl h8 rfl _ (by show _ :: m.frames = _; rw [h5]) rfl
end Mine
namespace Mine
open PySem PySem.W PyProof.Rows PySem.Builtin PySem.Builtin.Re

structure PatAt (h : Heap) (P : Addr) (code : Array Nat) : Prop where
  at_ : ∃ a b T its n, h.get? P = some { cls := .type "re.Pattern", data := .fields #[a, b, .int 0 0, .none, .none, .ref T, .int 0 0] } ∧ h.get? T = some { cls := .type "tuple", data := .seq its n } ∧ (its.map reRawOf).map (·.toNat) = code
section
variable {prog : Program} {w : World} {A : Around} {E : Value → Shared → Prop} {s : Shared}
theorem seen_wp (m : Sre.M) {Q : PUnit → Shared → Prop} (h : Q ⟨⟩ s) : wpAny (model prog w) A (forIn (List.range Sre.names.size) PUnit.unit fun i _ =>
    if m.seen.has i = true then do rule (Sre.names.getD i ""); pure (ForInStep.yield PUnit.unit) else pure (ForInStep.yield PUnit.unit)) Q E s := by
  refine wpAny_forIn_list _ (fun _ _ s' => s' = s) Q (fun x rest b s' e => ?_) (fun b s' e => by rw [e]; exact h) _ _ rfl
  subst e
  split
  · exact wpAny_bind (wpAny_rule (wpAny_pure rfl))
  · exact wpAny_pure rfl
theorem drive_wp {m : Sre.M} {o : Sre.Outcome} {Q : Sre.M → Shared → Prop} (e : (m.runFor 4).outcome = some o) (h : Q (m.runFor 4) s) : wpAny (model prog w) A (reDrive (2 ^ 64) m) Q E s := by
  rw [show (2 ^ 64 : Nat) = (2 ^ 64 - 1) + 1 from by decide]
  unfold reDrive
  show wpAny _ _ (if (m.runFor 4).outcome.isSome = true then pure (m.runFor 4) else _) _ _ _
  rw [e, if_pos (by rfl)]
  exact wpAny_pure h
theorem runToEnd_failed {m : Sre.M} {Q : Option Sre.M → Shared → Prop} (e : (m.runFor 4).outcome = some .failed) (h : Q none s) : wpAny (model prog w) A (reRunToEnd m) Q E s := by
  unfold reRunToEnd
  refine wpAny_bind (drive_wp e ?_)
  refine wpAny_bind (seen_wp _ ?_)
  rw [e]
  exact wpAny_pure h
theorem runToEnd_matched {m : Sre.M} {Q : Option Sre.M → Shared → Prop} (e : (m.runFor 4).outcome = some .matched) (h : Q (some (m.runFor 4)) s) : wpAny (model prog w) A (reRunToEnd m) Q E s := by
  unfold reRunToEnd
  refine wpAny_bind (drive_wp e ?_)
  refine wpAny_bind (seen_wp _ ?_)
  rw [e]
  exact wpAny_pure h
theorem named_search (text : Value) : reNamed "re.Pattern.search" "search" ["string", "pos", "endpos"] 1 [text] [] = pure [some text, none, none] := by rfl

theorem target_wp {P : Addr} {x : Str} {t : Tok} {code : Array Nat} {Q : ReTarget → Shared → Prop} (hP : PatAt s.heap P code) (hx : x.length ≤ 2 ^ 24)
    (h : Q { pattern := .ref P, string := .str x t, code := code, text := x.cps, kind := 0, groups := 0, pos := 0, lim := x.cps.size } s) :
    wpAny (model prog w) A (reTarget "re.Pattern.search" "search" ⟨[.ref P, .str x t], []⟩) Q E s := by
  obtain ⟨a, b, T, its, n, h1, h2, h3⟩ := hP.at_
  unfold reTarget
  show wpAny _ _ (reNamed "re.Pattern.search" "search" ["string", "pos", "endpos"] 1 [.str x t] [] >>= _) _ _ _
  rw [named_search]
  refine wpAny_bind (wpAny_pure ?_)
  refine wpAny_bind (wpAny_pure ?_)
  refine wpAny_bind (wpAny_pure ?_)
  refine wpAny_bind ?_
  unfold fieldsOf
  refine wpAny_bind (wpAny_load h1 (wpAny_pure ?_))
  refine wpAny_bind (wpAny_bind (wpAny_pure (wpAny_pure ?_)))
  dsimp only
  refine wpAny_bind (wpAny_pure ?_)
  refine wpAny_bind ?_
  show wpAny _ _ (do return ((← seqItems? (.ref T)).getD #[]).map reRawOf) _ _ _
  unfold seqItems?
  refine wpAny_bind (wpAny_bind (wpAny_load h2 (wpAny_pure (wpAny_pure (wpAny_pure ?_)))))
  have e0 : min (0 : Int).toNat x.cps.size = 0 := by simp
  have e1 : min ((2 ^ 63 - 1 : Int)).toNat x.cps.size = x.cps.size := by
    have : x.cps.size ≤ 2 ^ 24 := hx
    have e : ((2 ^ 63 - 1 : Int)).toNat = 2 ^ 63 - 1 := by decide
    omega
  show Q { pattern := .ref P, string := .str x t, code := (its.map reRawOf).map (·.toNat), text := x.cps, kind := 0, groups := 0, pos := min (0 : Int).toNat x.cps.size, lim := min ((2 ^ 63 - 1 : Int)).toNat x.cps.size } s
  rw [e0, e1, h3]
  exact h

def matchObj (fs : Array Value) : Obj := { cls := .type "re.Match", data := .fields fs }
def tupObj (vs : Array Value) : Obj := { cls := .type "tuple", data := .seq vs }
theorem search_body {P : Addr} {x : Str} {t : Tok} {code : Array Nat} {ctl : Nat → Bool} {Q : Value → Shared → Prop} (hP : PatAt s.heap P code) (hx : x.length ≤ 2 ^ 24)
    (hout : ((Sre.forSearch code x.cps 0 0 x.cps.size false).runFor 4).outcome = some (if ctlIn ctl x.cps then .matched else .failed))
    (h0 : ctlIn ctl x.cps = false → Q .none s)
    (h1 : ctlIn ctl x.cps = true → ∀ vs fs, Q (.ref (s.heap.objs.size + 1)) { s with heap := (s.heap.push (tupObj vs)).push (matchObj fs) }) :
    wpAny (model prog w) A (Builtin.«re.Pattern.search» ⟨[.ref P, .str x t], []⟩) (fun fin s' => ∃ v, fin = .done (.ret v) ∧ Q v s') E s := by
  unfold Builtin.«re.Pattern.search»
  refine wpAny_bind (target_wp hP hx ?_)
  unfold reAnswer
  dsimp only
  cases hc : ctlIn ctl x.cps with
  | false =>
    rw [hc, if_neg Bool.false_ne_true] at hout
    exact wpAny_bind (runToEnd_failed hout (wpAny_pure ⟨_, rfl, h0 hc⟩))
  | true =>
    rw [hc, if_pos rfl] at hout
    refine wpAny_bind (runToEnd_matched hout ?_)
    dsimp only
    refine wpAny_bind ?_
    unfold reNewMatch
    dsimp only
    refine wpAny_bind ?_
    unfold newTuple
    refine wpAny_newObj_type ?_ (by show List.length _ ≤ sizeLine; simp [List.range_zero]; decide)
    unfold newFields
    refine wpAny_newObj_type ?_ (by show 6 ≤ sizeLine + 2; decide)
    refine wpAny_pure ⟨_, rfl, ?_⟩
    have := h1 hc
    dsimp only
    rw [Heap.size_push]
    exact this _ _

/-- the search of a control sign in a text, as a call -/
theorem search_call {P : Addr} {x : Str} {t : Tok} {code : Array Nat} {ctl : Nat → Bool} {Q : Value → Shared → Prop} (hP : PatAt s.heap P code) (hx : x.length ≤ 2 ^ 24)
    (hout : ((Sre.forSearch code x.cps 0 0 x.cps.size false).runFor 4).outcome = some (if ctlIn ctl x.cps then .matched else .failed))
    (h0 : ctlIn ctl x.cps = false → Q .none s)
    (h1 : ctlIn ctl x.cps = true → ∀ vs fs, Q (.ref (s.heap.objs.size + 1)) { s with heap := (s.heap.push (tupObj vs)).push (matchObj fs) }) :
    wpAny (model prog w) A (call (.builtin "re.Pattern.search") [.ref P, .str x t]) Q E s := by
  have hT : s.TypeIs (.ref P) "re.Pattern" := by
    obtain ⟨a, b, T, its, n, e, _⟩ := hP.at_
    exact ⟨_, e, rfl⟩
  exact wpAny_call_entry slot_search hT entry_search (search_body hP hx hout h0 h1) (args_search _ _)
theorem getMethod_search {P : Addr} {code : Array Nat} {pl : Sem Bool} {Q : Value × List Value → Shared → Prop} (hP : PatAt s.heap P code) (h : Q (.builtin "re.Pattern.search", [.ref P]) s) :
    wpAny (model prog w) A (getMethod (.ref P) "search" pl) Q E s := by
  obtain ⟨a, b, T, its, n, e, _⟩ := hP.at_
  exact getMethod_builtin (T := "re.Pattern") ⟨_, e, rfl⟩ plain_pattern slot_search type_search (fun a' e' => by cases e'; exact ⟨_, e, rfl⟩) h
theorem nobool_match : typeLookup (.type "re.Match") "__bool__" = pure none := by rw [typeLookup_type, builtinLookup_eq_fast]; kernel_rfl
theorem nolen_match : typeLookup (.type "re.Match") "__len__" = pure none := by rw [typeLookup_type, builtinLookup_eq_fast]; kernel_rfl
theorem truthy_match {a : Addr} {fs : Array Value} {Q : Bool → Shared → Prop} (ha : s.heap.get? a = some (matchObj fs)) (h : Q true s) : wpAny (model prog w) A (truthy (.ref a)) Q E s := by
  have hT : s.TypeIs (.ref a) "re.Match" := ⟨_, ha, rfl⟩
  unfold truthy
  dsimp only
  refine wpAny_bind (wpAny_callSpecial?_none hT nobool_match ?_)
  dsimp only
  refine wpAny_bind (wpAny_specialOf hT nolen_match ?_)
  exact wpAny_pure h
end
end Mine
namespace Mine
section
variable {prog : Program} {w : World} {A : Around} {E : Value → Shared → Prop} {s : Shared} {h₀ : Heap} {L l : Addr} {m : Str → Option Value} {news : List (Addr × Obj)}
theorem setItem_all {D sl : Addr} {its ys : Array Value} {n k : Nat} {Q : Unit → Shared → Prop} (hl : s.heap.get? l = some (listOf its n)) (hD : s.heap.get? D = some (listOf ys k)) (hs : s.heap.IsSliceOf sl .none .none .none)
    (hlD : l ≠ D) (hsz : its.size + ys.size ≤ sizeLine) (h : ∀ h' n', Heap.SameBut l s.heap h' → h'.get? l = some (listOf ys n') → Q () { s with heap := h' }) :
    wpAny (model prog w) A (setItem (.ref l) (.ref sl) (.ref D)) Q E s := by
  have hL : s.heap.IsList l its := ⟨_, hl, rfl, n, rfl⟩
  have hLD : s.heap.IsList D ys := ⟨_, hD, rfl, k, rfl⟩
  obtain ⟨os, hos, hcs, hds⟩ := id hs
  have hTs : s.TypeIs (.ref sl) "slice" := ⟨os, hos, hcs⟩
  unfold setItem
  try with_reducible refine wpAny_holding ?_
  first | refine wpAny_bind (wpAny_pure ?_) | skip
  refine wpAny_bind (wpAny_sequenceKey hL.typeIs (by decide) ?_)
  refine wpAny_bind (wpAny_callSpecial?_slot (name := Str.ofString "__setitem__") hL.typeIs slot_list_setitem
    (wpAny_call_entry slot_list_setitem hL.typeIs entry_list_setitem ?_ (args_list_setitem _ _ _)))
  show wpAny _ _ (Builtin.List.listSubscript? (.ref sl) >>= _) _ _ s
  refine wpAny_bind ?_
  unfold Builtin.List.listSubscript?
  refine wpAny_bind (wpAny_specialOf hTs slice_no_index ?_)
  simp only [Option.isNone_none, if_true]
  refine wpAny_pure ?_
  show wpAny _ _ (typeOf (.ref sl) >>= _) _ _ s
  refine wpAny_bind (wpAny_typeOf hTs ?_)
  rw [if_neg (by decide)]
  rw [listSliceParts_eq]
  refine wpAny_bind (wpAny_bind (wpAny_field hos hds (x := .none) rfl (wpAny_bind (wpAny_listPart .none ?_))))
  rw [if_neg (by decide)]
  refine wpAny_bind (wpAny_field hos hds (x := .none) rfl (wpAny_bind (wpAny_listPart .none ?_)))
  refine wpAny_bind (wpAny_field hos hds (x := .none) rfl (wpAny_bind (wpAny_listPart .none (wpAny_pure ?_))))
  have hne : Builtin.List.listSameRef (.ref l) (.ref D) = false := by
    show (l == D) = false
    exact beq_eq_false_iff_ne.mpr hlD
  dsimp only
  rw [hne, if_neg Bool.false_ne_true]
  refine wpAny_bind ?_
  unfold Builtin.List.listAllItems
  refine wpAny_bind (wpAny_typeOf hLD.typeIs ?_)
  rw [if_pos (by decide)]
  unfold Builtin.List.listItems
  refine wpAny_bind (wpAny_seqItems hD rfl (wpAny_pure ?_))
  refine wpAny_bind ?_
  refine wpAny_bind (wpAny_seqItems hl rfl (wpAny_pure ?_))
  refine wpAny_bind (wpAny_of_eq (sliceIndices_raw none none none its.size (by simp)) ?_)
  have hb : sliceBounds none none none its.size = (0, (its.size : Int), 1) := rfl
  rw [hb]
  dsimp only
  rw [if_pos (by decide)]
  refine wpAny_bind (wpAny_rule ?_)
  rw [if_neg (by simp [Builtin.List.listTooLong]; omega)]
  have e1 : (max (0 : Int) (its.size : Int)).toNat = its.size := by
    rw [Int.max_eq_right (by omega)]; rfl
  have ef : (its.extract 0 (0 : Int).toNat ++ ys ++ its.extract (max (0 : Int) (its.size : Int)).toNat its.size) = ys := by
    rw [e1]; simp
  refine wpAny_bind ?_
  show wpAny _ _ (updateSeq l _) _ _ _
  refine wpAny_updateSeq hl rfl ?_ (by omega) (by rw [ef]; omega)
  have hm : Obj.mapSeq (fun xs => xs.extract 0 (0 : Int).toNat ++ ys ++ xs.extract (max (0 : Int) (its.size : Int)).toNat xs.size) (listOf its n) = listOf ys (if ys.size == its.size then n else n + 1) := by
    unfold Obj.mapSeq
    dsimp only
    rw [ef]
  have hg : (s.heap.update l (Obj.mapSeq fun xs => xs.extract 0 (0 : Int).toNat ++ ys ++ xs.extract (max (0 : Int) (its.size : Int)).toNat xs.size)).get? l = some (listOf ys (if ys.size == its.size then n else n + 1)) := by
    rw [Heap.get?_update_self _ hl (by rw [hm]; rfl), hm]
  refine wpAny_bind (wpAny_letGo (wpAny_pure ⟨.none, rfl, wpAny_pure ?_⟩))
  exact h _ _ (Heap.SameBut.update ..) hg
/-- the whole list laid anew, by the ledger -/
theorem setAll_L {D sl : Addr} {its ys : Array Value} {n k : Nat} {Q : Unit → Shared → Prop} (F : Fr h₀ L s.heap m) (N : News h₀ L s.heap news) (hl : (l, listOf its n) ∈ news) (hD : (D, listOf ys k) ∈ news) (hs : s.heap.IsSliceOf sl .none .none .none)
    (hlD : l ≠ D) (hsz : its.size + ys.size ≤ sizeLine) (h : ∀ h' n', Fr h₀ L h' m → News h₀ L h' (upd l (listOf ys n') news) → Q () { s with heap := h' }) :
    wpAny (model prog w) A (setItem (.ref l) (.ref sl) (.ref D)) Q E s :=
  setItem_all (N _ hl).1 (N _ hD).1 hs hlD hsz fun h' n' hs' ho' => h h' n' (F.change hs' (N _ hl).2.1 (N _ hl).2.2) (news_upd N hl hs' ho')
abbrev sliceAll : Obj := { cls := .type "slice", data := .fields #[.none, .none, .none] }
theorem slice_K {env : Env} {p : Pos} {Q : Value → Shared → Prop} (F : Fr h₀ L s.heap m) (N : News h₀ L s.heap news)
    (h : ∀ sl h', Fr h₀ L h' m → News h₀ L h' ((sl, sliceAll) :: news) → Q (.ref sl) { s with heap := h' }) : wpAny (model prog w) A (eval (.Slice none none none p) env) Q E s := by
  refine wpAny_Slice ?_
  rw [evalPart_none]
  refine wpAny_pure (wpAny_pure (wpAny_pure ?_))
  exact h _ _ (F.push _) (N.push F _)
theorem upd_cons {a : Addr × Obj} {o : Obj} {p : Addr × Obj} (h : p ∈ upd l o news) : p ∈ upd l o (a :: news) := by
  unfold upd at *
  rw [List.map_cons]
  exact List.mem_cons_of_mem _ h
end
end Mine
namespace Mine
/- the numbers below a small bound, one by one (omega's own splits cost a thousand nodes each) -/
theorem nlt2 {i : Nat} (h : i < 2) : i = 0 ∨ i = 1 := match i, h with | 0, _ => .inl rfl | 1, _ => .inr rfl
theorem nlt3 {i : Nat} (h : i < 3) : i = 0 ∨ i = 1 ∨ i = 2 := match i, h with | 0, _ => .inl rfl | 1, _ => .inr (.inl rfl) | 2, _ => .inr (.inr rfl)
theorem nlt4 {i : Nat} (h : i < 4) : i = 0 ∨ i = 1 ∨ i = 2 ∨ i = 3 := match i, h with | 0, _ => .inl rfl | 1, _ => .inr (.inl rfl) | 2, _ => .inr (.inr (.inl rfl)) | 3, _ => .inr (.inr (.inr rfl))
theorem nlt5 {i : Nat} (h : i < 5) : i = 0 ∨ i = 1 ∨ i = 2 ∨ i = 3 ∨ i = 4 := match i, h with | 0, _ => .inl rfl | 1, _ => .inr (.inl rfl) | 2, _ => .inr (.inr (.inl rfl)) | 3, _ => .inr (.inr (.inr (.inl rfl))) | 4, _ => .inr (.inr (.inr (.inr rfl)))
theorem zlt5 {z : Int} (h : 0 ≤ z ∧ z < 5) : z = 0 ∨ z = 1 ∨ z = 2 ∨ z = 3 ∨ z = 4 := by
  obtain ⟨n, rfl⟩ := Int.eq_ofNat_of_zero_le h.1
  have h2 : n < 5 := Int.ofNat_lt.mp h.2
  exact (by decide : ∀ n : Nat, n < 5 → ((n : Int) = 0 ∨ (n : Int) = 1 ∨ (n : Int) = 2 ∨ (n : Int) = 3 ∨ (n : Int) = 4)) n h2
theorem zlt6 {z : Int} (h : 0 ≤ z ∧ z < 6) : z = 0 ∨ z = 1 ∨ z = 2 ∨ z = 3 ∨ z = 4 ∨ z = 5 := by
  obtain ⟨n, rfl⟩ := Int.eq_ofNat_of_zero_le h.1
  have h2 : n < 6 := Int.ofNat_lt.mp h.2
  exact (by decide : ∀ n : Nat, n < 6 → ((n : Int) = 0 ∨ (n : Int) = 1 ∨ (n : Int) = 2 ∨ (n : Int) = 3 ∨ (n : Int) = 4 ∨ (n : Int) = 5)) n h2
theorem zlt8 {z : Int} (h : 0 ≤ z ∧ z < 8) : z = 0 ∨ z = 1 ∨ z = 2 ∨ z = 3 ∨ z = 4 ∨ z = 5 ∨ z = 6 ∨ z = 7 := by
  obtain ⟨n, rfl⟩ := Int.eq_ofNat_of_zero_le h.1
  have h2 : n < 8 := Int.ofNat_lt.mp h.2
  exact (by decide : ∀ n : Nat, n < 8 → ((n : Int) = 0 ∨ (n : Int) = 1 ∨ (n : Int) = 2 ∨ (n : Int) = 3 ∨ (n : Int) = 4 ∨ (n : Int) = 5 ∨ (n : Int) = 6 ∨ (n : Int) = 7)) n h2
theorem zsplit5 {z : Int} (h : 0 ≤ z ∧ z < 8) : z < 5 ∨ z = 5 ∨ z = 6 ∨ z = 7 := by
  rcases zlt8 h with rfl | rfl | rfl | rfl | rfl | h
  · exact .inl (by decide)
  · exact .inl (by decide)
  · exact .inl (by decide)
  · exact .inl (by decide)
  · exact .inl (by decide)
  · exact .inr h
theorem cnt_down {n i : Nat} (h : i < n) : n + 1 - (i + 1) < n + 1 - i := by omega
theorem room0 {d k j R : Nat} (h : d + k < R) (hj : j ≤ k) : d + j < R := Nat.lt_of_le_of_lt (Nat.add_le_add_left hj d) h
theorem room1 {d d' k j R : Nat} (h : d + k < R) (e : d' = d + 1) (hj : 1 + j ≤ k) : d' + j < R := by
  subst e
  rw [Nat.add_assoc]
  exact room0 h hj
theorem room2 {d d' k j R : Nat} (h : d + k < R) (e : d' = d + 1 + 1) (hj : 2 + j ≤ k) : d' + j < R := by
  subst e
  rw [Nat.add_assoc d 1 1, Nat.add_assoc]
  exact room0 h hj
end Mine
namespace Mine
section
variable {prog : Program} {w : World} {A : Around} {E : Value → Shared → Prop} {s : Shared} {h₀ : Heap} {L l : Addr} {m : Str → Option Value} {news : List (Addr × Obj)} {env : Env}

theorem news_keep {h h' : Heap} (N : News h₀ L h news) (k : ∀ b o, h.get? b = some o → h'.get? b = some o) : News h₀ L h' news := fun p hp => ⟨k _ _ (N p hp).1, (N p hp).2⟩
theorem listAll_of {vs : List Value} {its : Array Value} (hlen : vs.length = its.size) (hP : ∀ (j : Nat) v, vs[j]? = some v → its[j]? = some v) : vs = its.toList := by
  apply List.ext_getElem?
  intro j
  cases e : vs[j]? with
  | some v => rw [Array.getElem?_toList, hP j v e]
  | none =>
    have : vs.length ≤ j := List.getElem?_eq_none_iff.mp e
    rw [Array.getElem?_toList]
    symm
    rw [Array.getElem?_eq_none_iff]
    omega

/-- a comprehension over a list of the ledger, its test and its element quiet -/
theorem comp_tail {its : Array Value} {n : Nat} {scope : Scope} {cl : List (Str × Addr)} {x : Str} {ifs : List Expr} {elt : Expr} {p : Value → Bool} {Fm : Value → Value → Prop} {Q : Value → Shared → Prop}
    (hh : A.handled = none) (F : Fr h₀ L s.heap m) (N : News h₀ L s.heap news) (hl : (l, listOf its n) ∈ news) (hsz : its.size ≤ sizeLine)
    (hq : ∀ s₂ : Shared, (∃ o, s₂ = { s with heap := s.heap.push o }) → Fr h₀ L s₂.heap m → News h₀ L s₂.heap news → QuietOnC prog w A env scope cl x ifs elt [s.heap.objs.size] (fun i v => its[i]? = some v) p Fm s₂)
    (hQ : ∀ D h' tk ys k, Fr h₀ L h' m → News h₀ L h' ((D, listOf ys k) :: news) → Paired Fm (its.toList.filter p) ys.toList → (∀ q ∈ news, q.1 ≠ D) → (∀ b o, s.heap.get? b = some o → h'.get? b = some o) → Q (.ref D) { s with heap := h', toks := tk }) :
    wpAny (model prog w) A (pyIter (.ref l)) (fun it s₂ => ∃ I fp wr n P St, it = .ref I ∧ Walks prog w A I fp wr n P St ∧ n ≤ sizeLine ∧ St 0 s₂.heap ∧ (∀ b ∈ fp, b < s₂.heap.objs.size) ∧
      QuietOnC prog w A env scope cl x ifs elt wr P p Fm s₂ ∧
      (∀ D h' tk ys (vs : List Value), s₂.heap.get? D = none → h'.IsList D ys → h'.PlainList D ys → vs.length = n → (∀ j v, vs[j]? = some v → P j v) → Paired Fm (vs.filter p) ys.toList →
        (∀ b o, b ∉ wr → s₂.heap.get? b = some o → h'.get? b = some o) → Q (.ref D) { s₂ with heap := h', toks := tk })) E s := by
  have z := N _ hl
  have hL : s.heap.IsList l its := ⟨_, z.1, rfl, n, rfl⟩
  have hlt := Heap.lt_size z.1
  refine wpAny_pyIter_list hL ?_
  have up : ∀ b o, s.heap.get? b = some o → (s.heap.push { cls := .type "list_iterator", data := .fields #[.ref l, .int 0 0] }).get? b = some o := fun b o e => Heap.get?_push_of_some _ e
  refine ⟨_, _, _, _, _, _, rfl, Walks.list hh s.heap.objs.size l (Nat.ne_of_lt hlt) its, hsz, ⟨⟨_, Heap.get?_push_size _ rfl, rfl, rfl⟩, hL.push _⟩, ?_, hq _ ⟨_, rfl⟩ (F.push _) (news_keep N up), ?_⟩
  · intro b hb
    show b < (s.heap.push _).objs.size
    rw [Heap.size_push]
    rcases List.mem_cons.mp hb with rfl | hb
    · exact Nat.lt_succ_self _
    · rw [List.mem_singleton.mp hb]; exact Nat.lt_succ_of_lt hlt
  · intro D h' tk ys vs hD hlD hpl hlen hP hF hk
    have ev := listAll_of hlen hP
    subst ev
    have keep : ∀ b o, s.heap.get? b = some o → h'.get? b = some o := fun b o e => hk b o (fun hm => by
      rw [List.mem_singleton.mp hm] at e
      exact absurd (Heap.lt_size e) (Nat.lt_irrefl _)) (up b o e)
    have hD' : s.heap.get? D = none := by
      cases e : s.heap.get? D with
      | none => rfl
      | some o => rw [up D o e] at hD; cases hD
    obtain ⟨k, hpl⟩ := hpl
    refine hQ D h' tk ys k (F.keeps keep) (fun q hq => ?_) hF (fun q hq e => ?_) keep
    · rcases List.mem_cons.mp hq with rfl | hq
      · refine ⟨hpl, ?_, ?_⟩
        · rintro rfl
          obtain ⟨oL, _, _, e, _⟩ := F.ns
          rw [hD'] at e; cases e
        · cases e : h₀.get? D with
          | none => rfl
          | some o => rw [F.keep _ _ e] at hD'; cases hD'
      · exact news_keep N keep q hq
    · have := (N q hq).1
      rw [e, hD'] at this; cases this
end
end Mine
namespace Mine
section
variable {prog : Program} {w : World} {A : Around} {E : Value → Shared → Prop} {s : Shared} {h₀ : Heap} {l : Addr} {m : Str → Option Value} {news : List (Addr × Obj)} {env : Env}

/-- what a turn of a loop leaves: the state, the frame, the ledger, the iterator's entry, the word -/
def TurnEnd (h₀ : Heap) (L : Addr) (s : Shared) (it : Addr × Obj) (J : (Str → Option Value) → List (Addr × Obj) → Prop) (Q : Flow → Shared → Prop) (f : Flow) (s₃ : Shared) : Prop :=
  match f with
  | .ret v => Q (.ret v) s₃
  | .brk => Q .next s₃
  | _ => ∃ h' t' m₂ n₂, s₃ = { s with heap := h', toks := t' } ∧ Fr h₀ L h' m₂ ∧ News h₀ L h' n₂ ∧ it ∈ n₂ ∧ J m₂ n₂
def iterNames : List String := ["list_iterator", "range_iterator", "str_ascii_iterator", "dict_itemiterator", "tuple_iterator", "slice"]
def isIter (o : Obj) : Bool := match o.cls with | .type t => iterNames.contains t | _ => false
theorem isIter_of {o : Obj} {t : String} (h : o.cls = .type t) (ht : iterNames.contains t = true) : isIter o = true := by unfold isIter; rw [h]; exact ht
theorem isIter_absurd {o : Obj} {t : String} (h : o.cls = .type t) (ht : iterNames.contains t = true) (hn : isIter o = false) : False := by rw [isIter_of h ht] at hn; cases hn

theorem letOwned_list {target : Expr} {I l : Addr} {i : Nat} {v : Value} {Q : Unit → Shared → Prop} (hit : s.heap.IsListIter I l i) (hQ : Q () s) :
    wpAny (model prog w) A (letOwnedTupleGo target (.ref I) v) Q E s := by
  obtain ⟨o, ho, hc, hd⟩ := hit
  have fin : wpAny (model prog w) A (do
      let o ← load I
      match o.cls, o.data with
      | .type n, .fields vs =>
        if ["enumerate", "zip", "dict_itemiterator", "dict_reverseitemiterator", "odict_iterator", "itertools.zip_longest", "itertools.pairwise"].contains n && vs[0]? == some (rawInt (match v with | .ref a => a | _ => 0)) then
          rule "for.unpacks-the-owned-tuple"
          updateField I 0 .none
      | _, _ => pure ()) Q E s := by
    refine wpAny_bind (wpAny_load ho ?_)
    rw [hc, hd]
    dsimp only
    rw [if_neg (by
      intro h
      rw [show (["enumerate", "zip", "dict_itemiterator", "dict_reverseitemiterator", "odict_iterator", "itertools.zip_longest", "itertools.pairwise"].contains "list_iterator") = false from by decide, Bool.false_and] at h
      cases h)]
    exact wpAny_pure hQ
  unfold letOwnedTupleGo
  split
  · cases v <;> first | exact fin | exact wpAny_pure hQ
  · cases v <;> first | exact fin | exact wpAny_pure hQ
  · exact wpAny_pure hQ

theorem fr_but' {L I : Addr} {h h' : Heap} (F : Fr h₀ L h m) (k : ∀ b o, b ≠ I → h.get? b = some o → h'.get? b = some o) (hL : L ≠ I) (h0 : h₀.get? I = none) : Fr h₀ L h' m := by
  obtain ⟨oL, es, ep, a, r⟩ := F.ns
  exact ⟨⟨oL, es, ep, k _ _ hL a, r⟩, fun b o e => k b o (fun q => by rw [q, h0] at e; cases e) (F.keep b o e), F.above⟩

/-- a loop over what lies in an object of the ledger, by its iterator's rules -/
theorem for_seqN {cn : String} {ob : Obj} {target : Expr} {body : List Stmt} {its : Array Value} {Q : Flow → Shared → Prop} (hcn : iterNames.contains cn = true)
    (start : ∀ Q' : Value → Shared → Prop, s.heap.get? l = some ob → Q' (.ref s.heap.objs.size) { s with heap := s.heap.push { cls := .type cn, data := .fields #[.ref l, .int 0 0] } } → wpAny (model prog w) A (pyIter (.ref l)) Q' E s)
    (item : ∀ (Q' : Option Value → Shared → Prop) (E' : Value → Shared → Prop) (s' : Shared) (I : Addr) (i : Nat) (v : Value), (∃ o, s'.heap.get? I = some o ∧ o.cls = .type cn ∧ o.data = .fields #[.ref l, .int ((i : Nat) : Int) 0]) → s'.heap.get? l = some ob → its[i]? = some v →
      (∀ h', (∃ o, h'.get? I = some o ∧ o.cls = .type cn ∧ o.data = .fields #[.ref l, .int ((i + 1 : Nat) : Int) 0]) → Heap.SameBut I s'.heap h' → Q' (some v) { s' with heap := h' }) → wpAny (model prog w) A (pyNext (.ref I)) Q' E' s')
    (fin : ∀ (Q' : Option Value → Shared → Prop) (E' : Value → Shared → Prop) (s' : Shared) (I : Addr) (i : Nat), (∃ o, s'.heap.get? I = some o ∧ o.cls = .type cn ∧ o.data = .fields #[.ref l, .int ((i : Nat) : Int) 0]) → s'.heap.get? l = some ob → its[i]? = none →
      (∀ h', (∀ b o, b ≠ I → s'.heap.get? b = some o → h'.get? b = some o) → Q' none { s' with heap := h' }) → wpAny (model prog w) A (pyNext (.ref I)) Q' E' s')
    (own : ∀ (Q' : Unit → Shared → Prop) (E' : Value → Shared → Prop) (s' : Shared) (I : Addr) (i : Nat) (v : Value), (∃ o, s'.heap.get? I = some o ∧ o.cls = .type cn ∧ o.data = .fields #[.ref l, .int ((i : Nat) : Int) 0]) → Q' () s' → wpAny (model prog w) A (letOwnedTupleGo target (.ref I) v) Q' E' s') (J : Nat → (Str → Option Value) → List (Addr × Obj) → Prop)
    (F : Fr h₀ env.locals s.heap m) (N : News h₀ env.locals s.heap news)
    (hJ : ∀ i m n n' I, (∀ p ∈ news, p.1 ≠ I) → (∀ p ∈ n, isIter p.2 = false → p.1 ≠ I) → J i m n → (∀ p ∈ n, p.1 ≠ I → p ∈ n') → J i m n') (hl : ∀ i m n', J i m n' → (l, ob) ∈ n') (j0 : J 0 m news)
    (turn : ∀ i v m₁ n₁ h tk it, its[i]? = some v → J i m₁ n₁ → isIter it.2 = true → it ∈ n₁ → (∀ p ∈ news, p.1 ≠ it.1) → Fr h₀ env.locals h m₁ → News h₀ env.locals h n₁ →
      wpAny (model prog w) A (assign target env v) (fun _ s₂ => wpAny (model prog w) A (execs body env) (TurnEnd h₀ env.locals s it (J (i + 1)) Q) (notedBy (model prog w) A env fun e s' => cameBackBy (model prog w) A env E e s') s₂)
        (notedBy (model prog w) A env fun e s' => cameBackBy (model prog w) A env E e s') { s with heap := h, toks := tk })
    (done : ∀ m₁ n₁ h tk, J its.size m₁ n₁ → Fr h₀ env.locals h m₁ → News h₀ env.locals h n₁ → Q .next { s with heap := h, toks := tk }) :
    wpAny (model prog w) A (pyIter (.ref l)) (fun it s₂ => codeAny (model prog w) A (.forLoop target it body [] env) (fun r s' => match r with | .ok f => Q f s' | .error e => cameBackBy (model prog w) A env E e s') s₂) E s := by
  have z := N _ (hl _ _ _ j0)
  have hlt := Heap.lt_size z.1
  refine start _ z.1 ?_
  have up : ∀ b o, s.heap.get? b = some o → (s.heap.push { cls := .type cn, data := .fields #[.ref l, .int 0 0] }).get? b = some o := fun b o e => Heap.get?_push_of_some _ e
  have hLI : env.locals ≠ s.heap.objs.size := Nat.ne_of_lt F.ns.lt
  have hI0 : h₀.get? s.heap.objs.size = none := next_is_new F
  have nI : ∀ p ∈ news, p.1 ≠ s.heap.objs.size := fun p hp => Nat.ne_of_lt (Heap.lt_size (N p hp).1)
  generalize hI : s.heap.objs.size = I at *
  refine codeAny_forLoop_any
    (fun k s' => ∃ h' tk m' n' i oI, s' = { s with heap := h', toks := tk } ∧ oI.cls = .type cn ∧ oI.data = .fields #[.ref l, .int ((i : Nat) : Int) 0] ∧ Fr h₀ env.locals h' m' ∧ News h₀ env.locals h' n' ∧ (I, oI) ∈ n' ∧ J i m' n' ∧ i ≤ its.size ∧
      k = its.size + 1 - i) ?_ (its.size + 1) ⟨_, s.toks, m, (I, { cls := .type cn, data := .fields #[.ref l, .int 0 0] }) :: news, 0, _, rfl, rfl, rfl, F.push _, ?_, .head _, hJ _ _ _ _ I nI (fun p hp _ => nI p hp) j0 (fun p hp _ => .tail _ hp), Nat.zero_le _, rfl⟩
  · rintro k s' ⟨h, tk, m', n', i, oI, rfl, hc, hd, F', N', hm, hJ', hi, rfl⟩
    have eI := (N' _ hm).1
    have hit : ∃ o, h.get? I = some o ∧ o.cls = .type cn ∧ o.data = .fields #[.ref l, .int ((i : Nat) : Int) 0] := ⟨oI, eI, hc, hd⟩
    have hlm := hl _ _ _ hJ'
    have hls := (N' _ hlm).1
    have keepJ : ∀ (p : Addr × Obj), p ∈ n' → isIter p.2 = false → p.1 ≠ I := fun p hp hni e => by
      have e1 := (N' _ hp).1
      rw [e, eI] at e1
      exact isIter_absurd (by rw [← Option.some.inj e1]; exact hc) hcn hni
    cases hv : its[i]? with
    | none =>
      have hsz : i = its.size := Nat.le_antisymm hi (by simpa using hv)
      refine fin _ _ _ I i hit hls hv fun h₁ he₁ => wpAny_execs_nil ?_
      have k₁ : ∀ b o, b ≠ I → h.get? b = some o → h₁.get? b = some o := fun b o hb e => he₁ b o hb e
      refine done m' (n'.filter fun p => decide (p.1 ≠ I)) h₁ tk (hsz ▸ hJ _ _ _ _ I nI keepJ hJ' fun p hp hni => ?_) (fr_but' F' k₁ hLI hI0) fun p hp => ?_
      · rw [List.mem_filter, decide_eq_true_eq]
        exact ⟨hp, hni⟩
      · rw [List.mem_filter, decide_eq_true_eq] at hp
        exact ⟨k₁ _ _ hp.2 (N' _ hp.1).1, (N' _ hp.1).2⟩
    | some v =>
      have hlt : i < its.size := (Array.getElem?_eq_some_iff.mp hv).1
      refine item _ _ _ I i v hit hls hv fun h₁ hit₁ hs₁ => ?_
      have k₁ : ∀ b o, b ≠ I → h.get? b = some o → h₁.get? b = some o := fun b o hb e => hs₁.extBut b o hb e
      dsimp only
      refine own _ _ _ I _ _ hit₁ ?_
      obtain ⟨o₁, e₁, c₁, d₁⟩ := id hit₁
      have ii : isIter o₁ = true := isIter_of c₁ hcn
      refine wpAny_mono (turn i v m' ((I, o₁) :: n'.filter fun p => decide (p.1 ≠ I)) h₁ tk (I, o₁) hv (hJ _ _ _ _ I nI keepJ hJ' fun p hp hni => ?_) ii (.head _) nI (fr_but' F' k₁ hLI hI0) fun p hp => ?_) (fun _ s₂ h₂ => wpAny_mono h₂ (fun f s₃ h₃ => ?_) fun _ _ x => x) fun _ _ x => x
      · refine List.mem_cons_of_mem _ ?_
        rw [List.mem_filter, decide_eq_true_eq]
        exact ⟨hp, hni⟩
      · rcases List.mem_cons.mp hp with rfl | hp
        · exact ⟨e₁, Ne.symm hLI, hI0⟩
        · rw [List.mem_filter, decide_eq_true_eq] at hp
          exact ⟨k₁ _ _ hp.2 (N' _ hp.1).1, (N' _ hp.1).2⟩
      · have go : (∃ h' t' m₂ n₂, s₃ = { s with heap := h', toks := t' } ∧ Fr h₀ env.locals h' m₂ ∧ News h₀ env.locals h' n₂ ∧ (I, o₁) ∈ n₂ ∧ J (i + 1) m₂ n₂) → ∃ m_1, m_1 < its.size + 1 - i ∧ ∃ h' tk m' n' i oI, s₃ = { s with heap := h', toks := tk } ∧ oI.cls = .type cn ∧ oI.data = .fields #[.ref l, .int ((i : Nat) : Int) 0] ∧ Fr h₀ env.locals h' m' ∧ News h₀ env.locals h' n' ∧ (I, oI) ∈ n' ∧ J i m' n' ∧ i ≤ its.size ∧
            m_1 = its.size + 1 - i := by
          rintro ⟨h', t', m₂, n₂, rfl, F₂, N₂, hm₂, hJ₂⟩
          exact ⟨its.size + 1 - (i + 1), cnt_down hlt, h', t', m₂, n₂, i + 1, o₁, rfl, c₁, by rw [d₁], F₂, N₂, hm₂, hJ₂, hlt, rfl⟩
        cases f with
        | ret v => exact h₃
        | brk => exact h₃
        | next => exact go h₃
        | cont => exact go h₃
  · intro p hp
    rcases List.mem_cons.mp hp with rfl | hp
    · exact ⟨hI ▸ Heap.get?_push_size _ rfl, Ne.symm hLI, hI0⟩
    · exact ⟨up _ _ (N _ hp).1, (N _ hp).2⟩
theorem for_listN {target : Expr} {body : List Stmt} {its : Array Value} {n : Nat} {Q : Flow → Shared → Prop} (J : Nat → (Str → Option Value) → List (Addr × Obj) → Prop)
    (hh : A.handled = none) (F : Fr h₀ env.locals s.heap m) (N : News h₀ env.locals s.heap news)
    (hJ : ∀ i m n n' I, (∀ p ∈ news, p.1 ≠ I) → (∀ p ∈ n, isIter p.2 = false → p.1 ≠ I) → J i m n → (∀ p ∈ n, p.1 ≠ I → p ∈ n') → J i m n') (hl : ∀ i m n', J i m n' → (l, listOf its n) ∈ n') (j0 : J 0 m news)
    (turn : ∀ i v m₁ n₁ h tk it, its[i]? = some v → J i m₁ n₁ → isIter it.2 = true → it ∈ n₁ → (∀ p ∈ news, p.1 ≠ it.1) → Fr h₀ env.locals h m₁ → News h₀ env.locals h n₁ →
      wpAny (model prog w) A (assign target env v) (fun _ s₂ => wpAny (model prog w) A (execs body env) (TurnEnd h₀ env.locals s it (J (i + 1)) Q) (notedBy (model prog w) A env fun e s' => cameBackBy (model prog w) A env E e s') s₂)
        (notedBy (model prog w) A env fun e s' => cameBackBy (model prog w) A env E e s') { s with heap := h, toks := tk })
    (done : ∀ m₁ n₁ h tk, J its.size m₁ n₁ → Fr h₀ env.locals h m₁ → News h₀ env.locals h n₁ → Q .next { s with heap := h, toks := tk }) :
    wpAny (model prog w) A (pyIter (.ref l)) (fun it s₂ => codeAny (model prog w) A (.forLoop target it body [] env) (fun r s' => match r with | .ok f => Q f s' | .error e => cameBackBy (model prog w) A env E e s') s₂) E s :=
  for_seqN (cn := "list_iterator") (ob := listOf its n) (by decide) (fun Q' e h => wpAny_pyIter_list ⟨_, e, rfl, n, rfl⟩ h) (fun Q' E' s' I i v hit e hv h => wpAny_pyNext_list_item hit ⟨_, e, rfl, n, rfl⟩ hv h) (fun Q' E' s' I i hit e hv h => wpAny_pyNext_list_end hh hit ⟨_, e, rfl, n, rfl⟩ hv h) (fun Q' E' s' I i v hit h => letOwned_list hit h) J F N hJ hl j0 turn done
theorem for_list {target : Expr} {body : List Stmt} {its : Array Value} {n : Nat} {Q : Flow → Shared → Prop} (J : Nat → (Str → Option Value) → List (Addr × Obj) → Prop)
    (hh : A.handled = none) (F : Fr h₀ env.locals s.heap m) (N : News h₀ env.locals s.heap news)
    (hJ : ∀ i m n n' I, (∀ p ∈ news, p.1 ≠ I) → (∀ p ∈ n, isIter p.2 = false → p.1 ≠ I) → J i m n → (∀ p ∈ n, p.1 ≠ I → p ∈ n') → J i m n') (hl : ∀ i m n', J i m n' → (l, listOf its n) ∈ n') (j0 : J 0 m news)
    (turn : ∀ i v m₁ n₁ h tk it, its[i]? = some v → J i m₁ n₁ → isIter it.2 = true → it ∈ n₁ → Fr h₀ env.locals h m₁ → News h₀ env.locals h n₁ →
      wpAny (model prog w) A (assign target env v) (fun _ s₂ => wpAny (model prog w) A (execs body env) (TurnEnd h₀ env.locals s it (J (i + 1)) Q) (notedBy (model prog w) A env fun e s' => cameBackBy (model prog w) A env E e s') s₂)
        (notedBy (model prog w) A env fun e s' => cameBackBy (model prog w) A env E e s') { s with heap := h, toks := tk })
    (done : ∀ m₁ n₁ h tk, J its.size m₁ n₁ → Fr h₀ env.locals h m₁ → News h₀ env.locals h n₁ → Q .next { s with heap := h, toks := tk }) :
    wpAny (model prog w) A (pyIter (.ref l)) (fun it s₂ => codeAny (model prog w) A (.forLoop target it body [] env) (fun r s' => match r with | .ok f => Q f s' | .error e => cameBackBy (model prog w) A env E e s') s₂) E s :=
  for_listN J hh F N hJ hl j0 (fun i v m₁ n₁ h tk it hv hJ hi hm _ F N => turn i v m₁ n₁ h tk it hv hJ hi hm F N) done
theorem for_items {v d : Addr} {od : Obj} {K : Type} [DecidableEq K] {knd : KeyKind prog w K} {elts : List Expr} {x1 : Nat} {pt : Pos} {body : List Stmt} {kvs : List (K × Value)} {Q : Flow → Shared → Prop} (J : Nat → (Str → Option Value) → List (Addr × Obj) → Prop)
    (hh : A.handled = none) (F : Fr h₀ env.locals s.heap m) (N : News h₀ env.locals s.heap news)
    (hJ : ∀ i m n n' I, (∀ p ∈ news, p.1 ≠ I) → (∀ p ∈ n, isIter p.2 = false → p.1 ≠ I) → J i m n → (∀ p ∈ n, p.1 ≠ I → p ∈ n') → J i m n') (hv : (v, ({ cls := .type "dict_items", data := .fields #[.ref d] } : Obj)) ∈ news) (hl : ∀ i m n', J i m n' → (d, od) ∈ n') (hd : od.IsDictOf knd kvs) (j0 : J 0 m news)
    (turn : ∀ i k v key t m₁ n₁ h tk it, kvs[i]? = some (k, v) → knd.is k key = true → (t, ({ cls := .type "tuple", data := .seq #[key, v] } : Obj)) ∈ n₁ → J i m₁ n₁ → isIter it.2 = true → it ∈ n₁ → Fr h₀ env.locals h m₁ → News h₀ env.locals h n₁ →
      wpAny (model prog w) A (assign (.Tuple elts x1 pt) env (.ref t)) (fun _ s₂ => wpAny (model prog w) A (execs body env) (TurnEnd h₀ env.locals s it (J (i + 1)) Q) (notedBy (model prog w) A env fun e s' => cameBackBy (model prog w) A env E e s') s₂)
        (notedBy (model prog w) A env fun e s' => cameBackBy (model prog w) A env E e s') { s with heap := h, toks := tk })
    (done : ∀ m₁ n₁ h tk, J kvs.length m₁ n₁ → Fr h₀ env.locals h m₁ → News h₀ env.locals h n₁ → Q .next { s with heap := h, toks := tk }) :
    wpAny (model prog w) A (pyIter (.ref v)) (fun it s₂ => codeAny (model prog w) A (.forLoop (.Tuple elts x1 pt) it body [] env) (fun r s' => match r with | .ok f => Q f s' | .error e => cameBackBy (model prog w) A env E e s') s₂) E s := by
  have z := N _ (hl _ _ _ j0)
  obtain ⟨es, ep, q1, q2, q3, q4, q5⟩ := hd
  have hD : ∀ h : Heap, h.get? d = some od → h.DictAt knd d kvs ep := fun h e => ⟨od, es, e, q1, q2, q3, q4, q5⟩
  have hV : s.heap.IsItemsView v d := ⟨_, (N _ hv).1, rfl, rfl⟩
  refine wpAny_pyIter_items hV (hD _ z.1) ?_
  have up : ∀ b o, s.heap.get? b = some o → (s.heap.push { cls := .type "dict_itemiterator", data := .fields #[.none, .bool false, .ref d, .int 0 0, .int kvs.length 0, .int ep 0, .none, .none] }).get? b = some o := fun b o e => Heap.get?_push_of_some _ e
  have hLI : env.locals ≠ s.heap.objs.size := Nat.ne_of_lt F.ns.lt
  have hI0 : h₀.get? s.heap.objs.size = none := next_is_new F
  have nI : ∀ p ∈ news, p.1 ≠ s.heap.objs.size := fun p hp => Nat.ne_of_lt (Heap.lt_size (N p hp).1)
  generalize hI : s.heap.objs.size = I at *
  refine codeAny_forLoop_any
    (fun k s' => ∃ h' tk m' n' i ok ov, s' = { s with heap := h', toks := tk } ∧ Fr h₀ env.locals h' m' ∧ News h₀ env.locals h' n' ∧ (I, ({ cls := .type "dict_itemiterator", dict := none, data := .fields #[.none, .bool false, .ref d, .int ((i : Nat) : Int) 0, .int kvs.length 0, .int ep 0, ok, ov], slots := #[] } : Obj)) ∈ n' ∧ J i m' n' ∧ i ≤ kvs.length ∧
      k = kvs.length + 1 - i) ?_ (kvs.length + 1) ⟨_, s.toks, m, (I, { cls := .type "dict_itemiterator", data := .fields #[.none, .bool false, .ref d, .int 0 0, .int kvs.length 0, .int ep 0, .none, .none] }) :: news, 0, .none, .none, rfl, F.push _, ?_, .head _, hJ _ _ _ _ I nI (fun p hp _ => nI p hp) j0 (fun p hp _ => .tail _ hp), Nat.zero_le _, rfl⟩
  · rintro k s' ⟨h, tk, m', n', i, ok, ov, rfl, F', N', hm, hJ', hi, rfl⟩
    have eI := (N' _ hm).1
    have hlm := hl _ _ _ hJ'
    have hds := hD h (N' _ hlm).1
    have keepJ : ∀ (p : Addr × Obj), p ∈ n' → isIter p.2 = false → p.1 ≠ I := fun p hp hni e => by
      have e1 := (N' _ hp).1
      rw [e, eI] at e1
      exact isIter_absurd (t := "dict_itemiterator") (by rw [← Option.some.inj e1]) (by decide) hni
    cases hx : kvs[i]? with
    | none =>
      have hsz : i = kvs.length := Nat.le_antisymm hi (by simpa using hx)
      refine wpAny_pyNext_items_end hh eI hds hx fun h₁ he₁ => wpAny_execs_nil ?_
      have k₁ : ∀ b o, b ≠ I → h.get? b = some o → h₁.get? b = some o := fun b o hb e => he₁ b o hb e
      refine done m' (n'.filter fun p => decide (p.1 ≠ I)) h₁ tk (hsz ▸ hJ _ _ _ _ I nI keepJ hJ' fun p hp hni => ?_) (fr_but' F' k₁ hLI hI0) fun p hp => ?_
      · rw [List.mem_filter, decide_eq_true_eq]
        exact ⟨hp, hni⟩
      · rw [List.mem_filter, decide_eq_true_eq] at hp
        exact ⟨k₁ _ _ hp.2 (N' _ hp.1).1, (N' _ hp.1).2⟩
    | some kv =>
      obtain ⟨key₀, val⟩ := kv
      have hlt : i < kvs.length := (List.getElem?_eq_some_iff.mp hx).1
      refine wpAny_pyNext_items_item eI hds hx fun key h₁ hkey hout ht hsz hk₁ => ?_
      dsimp only
      refine wpAny_letOwnedTupleGo_items hout fun h₂ hit₂ hs₂ => ?_
      have hTI : h.objs.size ≠ I := fun e => by
        have := Heap.lt_size eI
        rw [← e] at this
        exact Nat.lt_irrefl _ this
      have k₂ : ∀ b o, b ≠ I → h.get? b = some o → h₂.get? b = some o := fun b o hb e => hs₂.extBut b o hb (hk₁ b o hb e)
      have ht₂ : h₂.get? h.objs.size = some { cls := .type "tuple", data := .seq #[key, val] } := hs₂.extBut _ _ hTI ht
      have hTL : h.objs.size ≠ env.locals := Ne.symm (Nat.ne_of_lt F'.ns.lt)
      have hT0 : h₀.get? h.objs.size = none := next_is_new F'
      have ii : isIter ({ cls := .type "dict_itemiterator", dict := none, data := .fields #[.none, .bool false, .ref d, .int ((i + 1 : Nat) : Int) 0, .int kvs.length 0, .int ep 0, key, val], slots := #[] } : Obj) = true := isIter_of (t := "dict_itemiterator") rfl (by decide)
      refine wpAny_mono (turn i key₀ val key h.objs.size m' ((I, ({ cls := .type "dict_itemiterator", dict := none, data := .fields #[.none, .bool false, .ref d, .int ((i + 1 : Nat) : Int) 0, .int kvs.length 0, .int ep 0, key, val], slots := #[] } : Obj)) :: (h.objs.size, { cls := .type "tuple", data := .seq #[key, val] }) :: n'.filter fun p => decide (p.1 ≠ I)) h₂ tk (I, _) hx hkey (.tail _ (.head _)) (hJ _ _ _ _ I nI keepJ hJ' fun p hp hni => ?_) ii (.head _) (fr_but' F' k₂ hLI hI0) fun p hp => ?_) (fun _ s₂ h₂ => wpAny_mono h₂ (fun f s₃ h₃ => ?_) fun _ _ x => x) fun _ _ x => x
      · refine List.mem_cons_of_mem _ (List.mem_cons_of_mem _ ?_)
        rw [List.mem_filter, decide_eq_true_eq]
        exact ⟨hp, hni⟩
      · rcases List.mem_cons.mp hp with rfl | hp
        · exact ⟨hit₂, Ne.symm hLI, hI0⟩
        · rcases List.mem_cons.mp hp with rfl | hp
          · exact ⟨ht₂, hTL, hT0⟩
          · rw [List.mem_filter, decide_eq_true_eq] at hp
            exact ⟨k₂ _ _ hp.2 (N' _ hp.1).1, (N' _ hp.1).2⟩
      · have go : (∃ h' t' m₂ n₂, s₃ = { s with heap := h', toks := t' } ∧ Fr h₀ env.locals h' m₂ ∧ News h₀ env.locals h' n₂ ∧ (I, ({ cls := .type "dict_itemiterator", dict := none, data := .fields #[.none, .bool false, .ref d, .int ((i + 1 : Nat) : Int) 0, .int kvs.length 0, .int ep 0, key, val], slots := #[] } : Obj)) ∈ n₂ ∧ J (i + 1) m₂ n₂) → ∃ m_1, m_1 < kvs.length + 1 - i ∧ ∃ h' tk m' n' i ok ov, s₃ = { s with heap := h', toks := tk } ∧ Fr h₀ env.locals h' m' ∧ News h₀ env.locals h' n' ∧ (I, ({ cls := .type "dict_itemiterator", dict := none, data := .fields #[.none, .bool false, .ref d, .int ((i : Nat) : Int) 0, .int kvs.length 0, .int ep 0, ok, ov], slots := #[] } : Obj)) ∈ n' ∧ J i m' n' ∧ i ≤ kvs.length ∧
            m_1 = kvs.length + 1 - i := by
          rintro ⟨h', t', m₂, n₂, rfl, F₂, N₂, hm₂, hJ₂⟩
          exact ⟨kvs.length + 1 - (i + 1), cnt_down hlt, h', t', m₂, n₂, i + 1, key, val, rfl, F₂, N₂, hm₂, hJ₂, hlt, rfl⟩
        cases f with
        | ret v => exact h₃
        | brk => exact h₃
        | next => exact go h₃
        | cont => exact go h₃
  · intro p hp
    rcases List.mem_cons.mp hp with rfl | hp
    · exact ⟨hI ▸ Heap.get?_push_size _ rfl, Ne.symm hLI, hI0⟩
    · exact ⟨up _ _ (N _ hp).1, (N _ hp).2⟩

theorem assign_pair {x₁ x₂ : Str} {p₁ p₂ p : Pos} {k : Nat} {t : Addr} {a b : Value} {n : Nat} {Q : Unit → Shared → Prop} (hh : A.handled = none) (F : Fr h₀ env.locals s.heap m) (N : News h₀ env.locals s.heap news)
    (ht : (t, ({ cls := .type "tuple", data := .seq #[a, b] n } : Obj)) ∈ news) (h1 : env.kindOf x₁ = some .local) (h2 : env.kindOf x₂ = some .local) (hp : (env.scope.kind == .class || (env.scope.kind == .module && env.locals != env.globals)) = false)
    (h : ∀ h' tk, Fr h₀ env.locals h' (fun y => if y = x₂ then some b else if y = x₁ then some a else m y) → News h₀ env.locals h' news → Q () { s with heap := h', toks := tk }) :
    wpAny (model prog w) A (assign (.Tuple [.Name x₁ p₁, .Name x₂ p₂] k p) env (.ref t)) Q E s := by
  refine unpackN_ F N (items := #[a, b]) (N.isTup ht) hh rfl rfl fun h' F' N' => ?_
  show wpAny _ _ (assignInOrder [assign (.Name x₁ p₁) env, assign (.Name x₂ p₂) env] [a, b]) _ _ _
  refine assignInOrder_cons (wpAny_assign_Name (wpAny_storeName_local h1 F'.ns (fun h₂ hn₂ hs₂ => ?_) hp))
  refine assignInOrder_cons (wpAny_assign_Name (wpAny_storeName_local h2 hn₂ (fun h₃ hn₃ hs₃ => assignInOrder_nil ?_) hp))
  exact h h₃ _ ((F'.set hn₂ hs₂).set hn₃ hs₃) ((N'.set hs₂).set hs₃)
theorem assign_name {x₁ : Str} {p₁ : Pos} {v : Value} {Q : Unit → Shared → Prop} (F : Fr h₀ env.locals s.heap m) (N : News h₀ env.locals s.heap news)
    (h1 : env.kindOf x₁ = some .local) (hp : (env.scope.kind == .class || (env.scope.kind == .module && env.locals != env.globals)) = false)
    (h : ∀ h' tk, Fr h₀ env.locals h' (fun y => if y = x₁ then some v else m y) → News h₀ env.locals h' news → Q () { s with heap := h', toks := tk }) :
    wpAny (model prog w) A (assign (.Name x₁ p₁) env v) Q E s :=
  wpAny_assign_Name (wpAny_storeName_local h1 F.ns (fun h₂ hn₂ hs₂ => h h₂ _ (F.set hn₂ hs₂) (N.set hs₂)) hp)

/-- «for k, v in D.items():» -/
theorem for_items_exec {d : Addr} {od : Obj} {K : Type} [DecidableEq K] {knd : KeyKind prog w K} {elts : List Expr} {x1 : Nat} {pt apos cpos pos : Pos} {o : Expr} {body : List Stmt} {kvs : List (K × Value)} {Q : Flow → Shared → Prop} (J : Nat → (Str → Option Value) → List (Addr × Obj) → Prop)
    (hh : A.handled = none) (F : Fr h₀ env.locals s.heap m) (N : News h₀ env.locals s.heap news)
    (hbase : attributeBase o "items" env (eval o env) = eval o env) (hline : (apos.endLine == cpos.line) = true) (ho : ∀ Q' : Value → Shared → Prop, Q' (.ref d) s → wpAny (model prog w) A (eval o env) Q' E s)
    (hlo : (d == sysModules) = false) (hd : od.IsDictOf knd kvs)
    (hJ : ∀ i m n n' I, (∀ p ∈ news, p.1 ≠ I) → (∀ p ∈ n, isIter p.2 = false → p.1 ≠ I) → J i m n → (∀ p ∈ n, p.1 ≠ I → p ∈ n') → J i m n') (hl : ∀ i m n', J i m n' → (d, od) ∈ n') (j0 : J 0 m news)
    (turn : ∀ i k v key t m₁ n₁ h tk it, kvs[i]? = some (k, v) → knd.is k key = true → (t, ({ cls := .type "tuple", data := .seq #[key, v] } : Obj)) ∈ n₁ → J i m₁ n₁ → isIter it.2 = true → it ∈ n₁ → Fr h₀ env.locals h m₁ → News h₀ env.locals h n₁ →
      wpAny (model prog w) A (assign (.Tuple elts x1 pt) env (.ref t)) (fun _ s₂ => wpAny (model prog w) A (execs body env) (TurnEnd h₀ env.locals s it (J (i + 1)) Q) (notedBy (model prog w) A env fun e s' => cameBackBy (model prog w) A env E e s') s₂)
        (notedBy (model prog w) A env fun e s' => cameBackBy (model prog w) A env E e s') { s with heap := h, toks := tk })
    (done : ∀ m₁ n₁ h tk, J kvs.length m₁ n₁ → Fr h₀ env.locals h m₁ → News h₀ env.locals h n₁ → Q .next { s with heap := h, toks := tk })
    (hs : ∀ x, foldedSetIterable (.Call (.Attribute o "items" apos) [] [] cpos) env x = pure x := by intro _; rfl) :
    wpAny (model prog w) A (exec (.For (.Tuple elts x1 pt) (.Call (.Attribute o "items" apos) [] [] cpos) body [] pos) env) Q E s := by
  have z := N _ (hl _ _ _ j0)
  refine wpAny_For (wpAny_Call_items (knd := knd) (kvs := kvs) hlo ?_ hbase hline ho ?_) hs
  · obtain ⟨es, ep, r⟩ := hd
    exact ⟨od, es, ep, z.1, r⟩
  · exact for_items (s := { s with heap := s.heap.push { cls := .type "dict_items", data := .fields #[.ref d] } }) J hh (F.push _) (N.push F _) (fun i m n n' I h1 h2 h3 h4 => hJ i m n n' I (fun p hp => h1 p (.tail _ hp)) h2 h3 h4) (.head _) hl hd (hJ _ _ _ _ s.heap.objs.size (fun p hp => Nat.ne_of_lt (Heap.lt_size (N p hp).1)) (fun p hp _ => Nat.ne_of_lt (Heap.lt_size (N p hp).1)) j0 fun p hp _ => .tail _ hp) turn done

/-- a loop's word that keeps the frame's map and all the ledger -/
def KeepJ (M : Str → Option Value) (n₀ : List (Addr × Obj)) : Nat → (Str → Option Value) → List (Addr × Obj) → Prop := fun _ m' n' => m' = M ∧ ∀ p ∈ n₀, p ∈ n'
theorem KeepJ.start {M : Str → Option Value} {n₀ : List (Addr × Obj)} {i : Nat} : KeepJ M n₀ i M n₀ := ⟨rfl, fun _ h => h⟩
theorem KeepJ.mono {M : Str → Option Value} {n₀ : List (Addr × Obj)} (i : Nat) (m : Str → Option Value) (n n' : List (Addr × Obj)) (I : Addr) (h1 : ∀ p ∈ n₀, p.1 ≠ I) (_h2 : ∀ p ∈ n, isIter p.2 = false → p.1 ≠ I) (h3 : KeepJ M n₀ i m n) (h4 : ∀ p ∈ n, p.1 ≠ I → p ∈ n') : KeepJ M n₀ i m n' :=
  ⟨h3.1, fun p hp => h4 p (h3.2 p hp) (h1 p hp)⟩

/-- a map with two names laid over it -/
abbrev over2 (x₁ x₂ : Str) (u₁ u₂ : Option Value) (M : Str → Option Value) : Str → Option Value := fun y => if y = x₂ then u₂ else if y = x₁ then u₁ else M y
theorem over2_self (x₁ x₂ : Str) (M : Str → Option Value) : over2 x₁ x₂ (M x₁) (M x₂) M = M := by
  funext y
  unfold over2
  split
  · rename_i h; rw [h]
  · split
    · rename_i h; rw [h]
    · rfl
theorem over2_over {x₁ x₂ : Str} {u₁ u₂ v₁ v₂ : Option Value} {M : Str → Option Value} : over2 x₁ x₂ u₁ u₂ (over2 x₁ x₂ v₁ v₂ M) = over2 x₁ x₂ u₁ u₂ M := by
  funext y
  unfold over2
  split
  · rfl
  · rename_i h
    split
    · rfl
    · rfl
abbrev over1 (x₁ : Str) (u₁ : Option Value) (M : Str → Option Value) : Str → Option Value := fun y => if y = x₁ then u₁ else M y
def Keep2 (x₁ x₂ : Str) (M : Str → Option Value) (n₀ : List (Addr × Obj)) : Nat → (Str → Option Value) → List (Addr × Obj) → Prop := fun _ m' n' => (∃ u₁ u₂, m' = over2 x₁ x₂ u₁ u₂ M) ∧ ∀ p ∈ n₀, p ∈ n'
theorem Keep2.start {x₁ x₂ : Str} {M : Str → Option Value} {n₀ : List (Addr × Obj)} {i : Nat} : Keep2 x₁ x₂ M n₀ i M n₀ := ⟨⟨_, _, (over2_self _ _ _).symm⟩, fun _ h => h⟩
theorem Keep2.mono {x₁ x₂ : Str} {M : Str → Option Value} {n₀ : List (Addr × Obj)} (i : Nat) (m : Str → Option Value) (n n' : List (Addr × Obj)) (I : Addr) (h1 : ∀ p ∈ n₀, p.1 ≠ I) (_h2 : ∀ p ∈ n, isIter p.2 = false → p.1 ≠ I) (h3 : Keep2 x₁ x₂ M n₀ i m n) (h4 : ∀ p ∈ n, p.1 ≠ I → p ∈ n') : Keep2 x₁ x₂ M n₀ i m n' :=
  ⟨h3.1, fun p hp => h4 p (h3.2 p hp) (h1 p hp)⟩
end
end Mine
namespace Mine
def nameOf : Obj → Option Str
  | ⟨_, _, .seq xs _, _⟩ => (match xs[0]? with
    | some (Value.str nm _) => some nm
    | _ => none)
  | _ => none
def nameAt (h : Heap) (v : Value) : Option Str := match v with
  | .ref t => (h.get? t).bind nameOf
  | _ => none
def pairObj (nm : Str) (tk : Tok) (val : Value) : Obj := { cls := .type "tuple", data := .seq #[.str nm tk, val] }
theorem nameAt_pair {h : Heap} {t : Addr} {nm : Str} {tk : Tok} {val : Value} (e : h.get? t = some (pairObj nm tk val)) : nameAt h (.ref t) = some nm := by
  unfold nameAt
  simp only [e]
  rfl
/-- the test «lower of the first sign's name is not the key» -/
def notKey (h : Heap) (key : Str) (v : Value) : Bool := match nameAt h v with
  | some nm => !(Txt.lower nm == key)
  | none => true
/-- the items are pairs of a text and a value, each text short -/
def Pairs (h : Heap) (its : List Value) (ps : List (Str × Value)) : Prop := Paired (fun v q => ∃ t tk, v = .ref t ∧ h.get? t = some (pairObj q.1 tk q.2) ∧ q.1.length ≤ 1000) its ps
theorem Pairs.at_ {h : Heap} {its : List Value} {ps : List (Str × Value)} (P : Pairs h its ps) : ∀ (i : Nat) v, its[i]? = some v → ∃ t nm tk val, v = .ref t ∧ h.get? t = some (pairObj nm tk val) ∧ nm.length ≤ 1000 ∧ ps[i]? = some (nm, val) := by
  unfold Pairs at P
  induction P with
  | nil => intro i v e; simp at e
  | cons a _ ih =>
    intro i v e
    cases i with
    | zero =>
      simp only [List.getElem?_cons_zero, Option.some.injEq] at e
      subst e
      obtain ⟨t, tk, e1, e2, e3⟩ := a
      exact ⟨t, _, tk, _, e1, e2, e3, rfl⟩
    | succ i =>
      simp only [List.getElem?_cons_succ] at e ⊢
      exact ih i v e
theorem Pairs.length {h : Heap} {its : List Value} {ps : List (Str × Value)} (P : Pairs h its ps) : its.length = ps.length := by
  unfold Pairs at P
  induction P with
  | nil => rfl
  | cons _ _ ih => rw [List.length_cons, List.length_cons, ih]

/-- the same by the ledger -/
def PairsN (news : List (Addr × Obj)) (its : List Value) (ps : List (Str × Value)) : Prop := Paired (fun v q => ∃ t tk, v = .ref t ∧ (t, pairObj q.1 tk q.2) ∈ news ∧ q.1.length ≤ 1000) its ps
theorem Paired.imp {α β : Type} {F G : α → β → Prop} {a : List α} {b : List β} (h : Paired F a b) (k : ∀ x y, F x y → G x y) : Paired G a b := by
  induction h with
  | nil => exact .nil
  | cons x _ ih => exact .cons (k _ _ x) ih
theorem PairsN.mono {news news' : List (Addr × Obj)} {its : List Value} {ps : List (Str × Value)} (P : PairsN news its ps) (k : ∀ p ∈ news, p ∈ news') : PairsN news' its ps :=
  Paired.imp P fun _ _ ⟨t, tk, e1, e2, e3⟩ => ⟨t, tk, e1, k _ e2, e3⟩
theorem PairsN.here {h₀ h : Heap} {L : Addr} {news : List (Addr × Obj)} {its : List Value} {ps : List (Str × Value)} (P : PairsN news its ps) (N : News h₀ L h news) : Pairs h its ps :=
  Paired.imp P fun _ _ ⟨t, tk, e1, e2, e3⟩ => ⟨t, tk, e1, (N _ e2).1, e3⟩
theorem PairsN.upd {h₀ h : Heap} {L l : Addr} {o o' : Obj} {news : List (Addr × Obj)} {its : List Value} {ps : List (Str × Value)} (P : PairsN news its ps) (N : News h₀ L h news) (hl : (l, o) ∈ news) (ho : o.cls ≠ .type "tuple") : PairsN (upd l o' news) its ps :=
  Paired.imp P fun _ _ ⟨t, tk, e1, e2, e3⟩ => ⟨t, tk, e1, mem_upd e2 (news_ne N e2 hl fun e => ho e.symm), e3⟩
theorem PairsN.notKey {h₀ h : Heap} {L : Addr} {news : List (Addr × Obj)} {its : List Value} {ps : List (Str × Value)} {key : Str} (P : PairsN news its ps) (N : News h₀ L h news) : PairsN news (its.filter (notKey h key)) (ps.filter fun q => !(Txt.lower q.1 == key)) := by
  unfold PairsN at *
  induction P with
  | nil => exact .nil
  | @cons v q _ _ a _ ih =>
    obtain ⟨t, tk, e1, e2, e3⟩ := a
    have e : Mine.notKey h key v = !(Txt.lower q.1 == key) := by
      subst e1
      unfold Mine.notKey
      rw [nameAt_pair (N _ e2).1]
    rw [List.filter_cons, List.filter_cons, e]
    cases (!(Txt.lower q.1 == key)) with
    | true => exact .cons ⟨t, tk, e1, e2, e3⟩ ih
    | false => exact ih
theorem PairsN.length {news : List (Addr × Obj)} {its : List Value} {ps : List (Str × Value)} (P : PairsN news its ps) : its.length = ps.length := by
  unfold PairsN at P
  induction P with
  | nil => rfl
  | cons _ _ ih => rw [List.length_cons, List.length_cons, ih]
theorem PairsN.snoc {news : List (Addr × Obj)} {its : List Value} {ps : List (Str × Value)} {t : Addr} {nm : Str} {tk : Tok} {v : Value} (P : PairsN news its ps) (h : (t, pairObj nm tk v) ∈ news) (hl : nm.length ≤ 1000) : PairsN news (its ++ [.ref t]) (ps ++ [(nm, v)]) :=
  PySem.Paired.snoc P ⟨t, tk, rfl, h, hl⟩
theorem PairsN.at_ {news : List (Addr × Obj)} {its : List Value} {ps : List (Str × Value)} (P : PairsN news its ps) : ∀ (i : Nat) v, its[i]? = some v → ∃ t nm tk val, v = .ref t ∧ (t, pairObj nm tk val) ∈ news ∧ nm.length ≤ 1000 ∧ ps[i]? = some (nm, val) := by
  unfold PairsN at P
  induction P with
  | nil => intro i v e; simp at e
  | cons a _ ih =>
    intro i v e
    cases i with
    | zero =>
      simp only [List.getElem?_cons_zero, Option.some.injEq] at e
      subst e
      obtain ⟨t, tk, e1, e2, e3⟩ := a
      exact ⟨t, _, tk, _, e1, e2, e3, rfl⟩
    | succ i =>
      simp only [List.getElem?_cons_succ] at e ⊢
      exact ih i v e
theorem eq_cps (a b : Str) : (a.cps.toList == b.cps.toList) = (a == b) := by
  obtain ⟨⟨x⟩⟩ := a
  obtain ⟨⟨y⟩⟩ := b
  by_cases h : x = y
  · subst h; simp
  · have h1 : (Str.mk ⟨x⟩ == Str.mk ⟨y⟩) = false := by
      rw [beq_eq_false_iff_ne]
      intro e
      injection e with e
      injection e with e
      exact h e
    rw [h1]
    simpa using h
section
variable {prog : Program} {w : World} {A : Around} {h₀ : Heap} {L l : Addr} {m : Str → Option Value} {news : List (Addr × Obj)} {env : Env}
theorem quiet_del {pl : Sem Bool} {scope : Scope} {cl : List (Str × Addr)} {p0 p1 p2 p3 p4 p5 p6 p7 : Pos} {its : Array Value} {ps : List (Str × Value)} {I c : Addr} {oc : Obj} {key : Str} {tkk : Tok} {s₂ : Shared} {H : Heap}
    (hk : ∀ C, (compEnvC scope cl C env).scope.kind = .function) (hv : ∀ C, (compEnvC scope cl C env).kindOf (Str.ofString "kv") = some .local) (hn : ∀ C, (compEnvC scope cl C env).kindOf (Str.ofString "name") = some .cell)
    (hcl : cl.lookup (Str.ofString "name") = some c) (hc : H.get? c = some oc) (hoc : oc.data = .cell (some (.str key tkk)))
    (hcall : ∀ C, eval (.Call (.Attribute (.Subscript (.Name (Str.ofString "kv") p1) (.Constant (.int 0) 0 p2) p3) (Str.ofString "lower") p4) [] [] p5) (compEnvC scope cl C env) = (do
      let ov ← eval (.Subscript (.Name (Str.ofString "kv") p1) (.Constant (.int 0) 0 p2) p3) (compEnvC scope cl C env)
      standAt p4.atName
      let (f, first) ← holding [ov] (getMethod ov (Str.ofString "lower") pl)
      callWith p5 f first (backTo p5 (starEach [] (compEnvC scope cl C env))) []))
    (P : Pairs H its.toList ps) (kH : ∀ b o, H.get? b = some o → s₂.heap.get? b = some o) (hI : ∀ t o, H.get? t = some o → t ≠ I) :
    QuietOnC prog w A env scope cl (Str.ofString "kv") [.Compare (.Call (.Attribute (.Subscript (.Name (Str.ofString "kv") p1) (.Constant (.int 0) 0 p2) p3) (Str.ofString "lower") p4) [] [] p5) [.NotEq] [.Name (Str.ofString "name") p6] p7] (.Name (Str.ofString "kv") p0) [I] (fun i v => its[i]? = some v) (notKey H key) (fun v y => y = v) s₂ := by
  refine ⟨fun C i v s₃ m₃ E' hC hP hn₃ hm₃ hk₃ _ => ?_, fun C i v s₃ m₃ E' hC hP _ hn₃ hm₃ hk₃ _ => ?_⟩
  · obtain ⟨t, nm, tk, val, rfl, ht, hsm, _⟩ := P.at_ i v (by rw [Array.getElem?_toList]; exact hP)
    have ht₃ := hk₃ t _ (fun e => hI t _ ht (List.mem_singleton.mp e)) (kH _ _ ht)
    have hc₃ := hk₃ c _ (fun e => hI c _ hc (List.mem_singleton.mp e)) (kH _ _ hc)
    have hT : IsTup s₃.heap t #[.str nm tk, val] := ⟨_, ht₃, rfl, 0, rfl⟩
    refine wpAny_tests_one (wpAny_isTrue_Compare1 ?_)
    refine MethodCall_ ?_ (hcall C)
    refine Subscript_ ?_
    refine wpAny_Name (wpAny_loadName_local (hk C) (hv C) hn₃ hm₃ ?_)
    refine wpAny_Constant_int ?_
    refine item_tupleT (l := [.str nm tk, val]) hT (by decide) (by decide) rfl rfl ?_
    refine GM.lower ?_
    refine callWith_method0 ?_
    refine SCL.lower (by omega) fun _ => ?_
    refine wpAny_Name (wpAny_loadName_cell (hk C) (hn C) hcl ⟨oc, hc₃, hoc⟩ ?_)
    refine ne_str ?_
    refine wpAny_truthy_bool ⟨?_, ⟨_, _, rfl, fun _ _ e => e⟩⟩
    unfold notKey
    rw [nameAt_pair ht]
    rfl
  · refine wpAny_Name (wpAny_loadName_local (hk C) (hv C) hn₃ hm₃ ?_)
    exact ⟨rfl, ⟨_, _, rfl, fun _ _ e => e⟩⟩
theorem paired_eq {l₁ l₂ : List Value} (h : Paired (fun v y => y = v) l₁ l₂) : l₂ = l₁ := by
  induction h with
  | nil => rfl
  | cons a _ ih => rw [a, ih]
theorem ListComp_del {E : Value → Shared → Prop} {s : Shared} {pl : Sem Bool} {scope : Scope} {cl : List (Str × Addr)} {p0 p1 p2 p3 p4 p5 p6 p7 px pos : Pos} {iter : Expr} {its : Array Value} {n : Nat} {ps : List (Str × Value)} {c : Addr} {oc : Obj} {key : Str} {tkk : Tok} {Q : Value → Shared → Prop}
    (hh : A.handled = none) (F : Fr h₀ L s.heap m) (N : News h₀ L s.heap news) (hl : (l, listOf its n) ∈ news) (hsz : its.size ≤ sizeLine) {n0 : List (Addr × Obj)} (P : PairsN n0 its.toList ps) (hn0 : ∀ p ∈ n0, p ∈ news)
    (hcn : (c, oc) ∈ news) (hoc : oc.data = .cell (some (.str key tkk)))
    (hclos : closureFor scope env = pure cl) (hcell : ∀ y ∈ scope.names, y.2 ≠ .cell) (hkind : scope.kind = .function)
    (hnames : ∀ y ∈ scope.names, y.2 = .local → scope.names.lookup y.1 = some .local) (hx : scope.names.lookup (Str.ofString "kv") = some .local)
    (hk : ∀ C, (compEnvC scope cl C env).scope.kind = .function) (hv : ∀ C, (compEnvC scope cl C env).kindOf (Str.ofString "kv") = some .local) (hn : ∀ C, (compEnvC scope cl C env).kindOf (Str.ofString "name") = some .cell)
    (hcl : cl.lookup (Str.ofString "name") = some c)
    (hcall : ∀ C, eval (.Call (.Attribute (.Subscript (.Name (Str.ofString "kv") p1) (.Constant (.int 0) 0 p2) p3) (Str.ofString "lower") p4) [] [] p5) (compEnvC scope cl C env) = (do
      let ov ← eval (.Subscript (.Name (Str.ofString "kv") p1) (.Constant (.int 0) 0 p2) p3) (compEnvC scope cl C env)
      standAt p4.atName
      let (f, first) ← holding [ov] (getMethod ov (Str.ofString "lower") pl)
      callWith p5 f first (backTo p5 (starEach [] (compEnvC scope cl C env))) []))
    (hs : ∀ x, foldedSetIterable iter env x = pure x)
    (hiter : ∀ Q' : Value → Shared → Prop, (∀ tk, Q' (.ref l) { s with toks := tk }) → wpAny (model prog w) A (eval iter env) Q' E s)
    (hQ : ∀ D h' tk k ys, Fr h₀ L h' m → News h₀ L h' ((D, listOf ys k) :: news) → (∀ q ∈ news, q.1 ≠ D) →
      PairsN n0 ys.toList (ps.filter fun q => !(Txt.lower q.1 == key)) → ys.size ≤ its.size → Q (.ref D) { s with heap := h', toks := tk }) :
    wpAny (model prog w) A (eval (.ListComp (.Name (Str.ofString "kv") p0) [⟨.Name (Str.ofString "kv") px, iter, [.Compare (.Call (.Attribute (.Subscript (.Name (Str.ofString "kv") p1) (.Constant (.int 0) 0 p2) p3) (Str.ofString "lower") p4) [] [] p5) [.NotEq] [.Name (Str.ofString "name") p6] p7], 0⟩] scope pos) env) Q E s := by
  refine wpAny_ListComp_free (notKey s.heap key) (fun v y => y = v) hclos hcell hkind hnames hx (hiter _ fun tk => ?_) hs
  refine comp_tail (s := { s with toks := tk }) hh F N hl hsz (fun s₂ ⟨o, e⟩ F₂ N₂ => ?_) (fun D h' tk' ys k F' N' hP hD keep => ?_)
  · refine quiet_del hk hv hn hcl (N _ hcn).1 hoc hcall (P.here (news_mono N hn0)) (fun b o' e' => ?_) (fun t o' e' => Nat.ne_of_lt (Heap.lt_size e'))
    rw [e]
    exact Heap.get?_push_of_some _ e'
  · have ey := paired_eq hP
    refine hQ D h' tk' k ys F' N' hD ?_ ?_
    · rw [ey]; exact P.notKey (news_mono N hn0)
    · have := List.length_filter_le (notKey s.heap key) its.toList
      rw [← ey] at this
      simpa using this

end
end Mine
namespace Mine
/-- every entry but those at l stays -/
def Kept (l : Addr) (n n' : List (Addr × Obj)) : Prop := ∀ p ∈ n, p.1 ≠ l → p ∈ n'
theorem Kept.mem {l a : Addr} {o : Obj} {n n' : List (Addr × Obj)} (k : Kept l n n') (h : (a, o) ∈ n) (hne : a ≠ l) : (a, o) ∈ n' := k _ h hne
theorem Kept.upd {l : Addr} {o : Obj} {n : List (Addr × Obj)} : Kept l n (upd l o n) := fun _ hp hne => mem_upd hp hne
theorem Kept.sub {l : Addr} {a b n' : List (Addr × Obj)} (k : Kept l b n') (h : ∀ p ∈ a, p ∈ b) : Kept l a n' := fun p hp hne => k p (h p hp) hne
/-- a frame's map that is M outside the names S -/
def Agree (S : List Str) (M m : Str → Option Value) : Prop := ∀ y, y ∉ S → m y = M y
theorem Agree.start {S : List Str} {M : Str → Option Value} : Agree S M M := fun _ _ => rfl
theorem Agree.set {S : List Str} {M m : Str → Option Value} {x : Str} {v : Option Value} (h : Agree S M m) (hx : x ∈ S) : Agree S M (fun y => if y = x then v else m y) := fun y hy => by
  show (if y = x then v else m y) = M y
  have hne : ¬ y = x := fun e => hy (by rw [e]; exact hx)
  rw [if_neg hne]
  exact h y hy
theorem iter_ne {h₀ h : Heap} {L l : Addr} {it : Addr × Obj} {o : Obj} {news : List (Addr × Obj)} (N : News h₀ L h news) (hi : isIter it.2 = true) (hm : it ∈ news) (hl : (l, o) ∈ news) (ho : isIter o = false) : it.1 ≠ l := by
  intro e
  have e1 := (N _ hm).1
  rw [e, (N _ hl).1] at e1
  cases e1
  rw [ho] at hi
  cases hi
theorem isIter_list {a : Array Value} {n : Nat} : isIter (listOf a n) = false := by show iterNames.contains "list" = false; decide
theorem handled_deeper {A : Around} {e : Env} (h : A.handled = none) : (A.deeper e).handled = none := h
/-- own append: the list's new entry, all others kept -/
theorem append_K {prog : Program} {w : World} {A : Around} {E : Value → Shared → Prop} {s : Shared} {h₀ : Heap} {L l : Addr} {m : Str → Option Value} {news : List (Addr × Obj)} {its : Array Value} {n : Nat} {x : Value} {Q : Value → Shared → Prop} (F : Fr h₀ L s.heap m) (N : News h₀ L s.heap news) (hl : (l, listOf its n) ∈ news) (hsz : its.size ≤ sizeLine)
    (h : ∀ h' news', Fr h₀ L h' m → News h₀ L h' news' → Kept l news news' → (l, listOf (its.push x) (n + 1)) ∈ news' → Q .none { s with heap := h' }) : wpAny (model prog w) A (call (.builtin "list.append") [.ref l, x]) Q E s :=
  append_L (hsz := hsz) F N hl fun h' F' N' => h h' _ F' N' Kept.upd (mem_upd_self hl)
section
variable {M : Model} {A : Around} {E : Value → Shared → Prop} {s : Shared} {K : Frag} {x C L f : Addr} {h₀ : Heap} {m : Str → Option Value} {ox : Obj} {od : Option Obj} {i v : Value}
theorem delItem_own {Q : Unit → Shared → Prop} (F : Fr h₀ L s.heap m) (X₀ : K.In h₀) (I : InstAt s.heap x ox C od) (hq : noSeq K C = true) (hs : findIn K (.ref C) "__delitem__" = some (some (.ref f))) (hf : isFn K (.ref f) = true)
    (h : wpAny M A (call (.ref f) [.ref x, i]) (fun _ s' => Q () s') E s) : wpAny M A (delItem (.ref x) i) Q E s := by
  have X := X₀.keeps F.keep
  unfold delItem sequenceKey
  refine wpAny_holding (wpAny_bind (wpAny_bind (I.type.here ?_)))
  refine wpAny_bind ((anyM_none X hq).here ?_)
  rw [if_pos (show (!false) = true from rfl)]
  exact wpAny_pure (wpAny_bind (special_fn X I hs (beq_iff_eq.mp hf) (wpAny_mono h (fun _ _ z => wpAny_pure z) fun _ _ z => z)))
end
end Mine
namespace Mine
theorem slicePick_all (its : Array Value) : slicePick its none none none = its := by
  have h := slicePick_run its 0 its.size (Nat.le_refl _) (Nat.zero_le _)
  have e : slicePick its none none none = slicePick its (some ((0 : Nat) : Int)) (some (its.size : Int)) none := by
    unfold slicePick
    have e1 : sliceBounds none none none its.size = (0, (its.size : Int), 1) := rfl
    have e2 : sliceBounds (some ((0 : Nat) : Int)) (some (its.size : Int)) none its.size = (0, (its.size : Int), 1) := by
      unfold sliceBounds
      simp
      omega
    rw [e1, e2]
  rw [e, h, List.drop_zero, Nat.sub_zero, List.take_of_length_le (by simp)]
section
variable {prog : Program} {w : World} {A : Around} {E : Value → Shared → Prop} {s : Shared} {h₀ : Heap} {L l : Addr} {m : Str → Option Value} {news : List (Addr × Obj)}
theorem copy_L {value slice : Expr} {sl : Addr} {its : Array Value} {n : Nat} {Q : Value → Shared → Prop} (F : Fr h₀ L s.heap m) (N : News h₀ L s.heap news) (hl : (l, listOf its n) ∈ news) (hs : (sl, sliceAll) ∈ news) (hsz : its.size ≤ sizeLine)
    (h : ∀ D h', Fr h₀ L h' m → News h₀ L h' ((D, listOf its 0) :: news) → (∀ p ∈ news, p.1 < D) → Q (.ref D) { s with heap := h' })
    (he : subscripted slice false (.ref l) (.ref sl) = operate [.ref sl, .ref l] (getItem (.ref l) (.ref sl)) := by with_unfolding_all rfl) :
    wpAny (model prog w) A (subscriptTail value slice (.ref l) (.ref sl)) Q E s := by
  have z := N _ hl
  have hL : s.heap.IsList l its := ⟨_, z.1, rfl, n, rfl⟩
  refine tail_any hL.typeIs slot_list_getitem.lookup ?_ he
  refine wpAny_getItem_list_slice hL ⟨_, (N _ hs).1, rfl, rfl⟩ .none .none .none (by simp) ?_ hsz
  rw [slicePick_all]
  exact h _ _ (F.push _) (N.push F _) fun p hp => Heap.lt_size (N p hp).1
theorem len_L {its : Array Value} {n : Nat} {Q : Value → Shared → Prop} (N : News h₀ L s.heap news) (hl : (l, listOf its n) ∈ news) (hsz : its.size ≤ 1000000)
    (h : ∀ t t', Q (.int its.size t) { s with toks := t' }) : wpAny (model prog w) A (call (.builtin "len") [.ref l]) Q E s :=
  Calls.call_len_list ⟨_, (N _ hl).1, rfl, n, rfl⟩ (by omega) (h _ _)
end
end Mine
namespace Mine
section
variable {prog : Program} {w : World} {A : Around} {E : Value → Shared → Prop} {s : Shared} {h₀ : Heap} {m : Str → Option Value} {news : List (Addr × Obj)} {env : Env}
end
end Mine
namespace Mine
section
variable {prog : Program} {w : World} {A : Around} {E : Value → Shared → Prop} {s : Shared} {h₀ : Heap} {L : Addr} {m : Str → Option Value} {news : List (Addr × Obj)} {env : Env}
theorem walks_bound {I : Addr} {fp wr : List Addr} {n : Nat} {P : Nat → Value → Prop} {St : Nat → Heap → Prop} (W : Walks prog w A I fp wr n P St) : Walks prog w A I fp wr n (fun i v => i < n ∧ P i v) St where
  sub := W.sub
  frame := W.frame
  item := fun i s Q E hi st hQ => W.item i s Q E hi st fun v h' tk hP => hQ v h' tk ⟨hi, hP⟩
  done := W.done
  self := W.self
end
end Mine
namespace Mine
theorem ints_at {cs : List Int} {vs : List Value} (hi : IntsAre vs cs) : ∀ {i : Nat} {c : Int}, cs[i]? = some c → ∃ t, vs[i]? = some (.int c t) := by
  induction hi with
  | nil => intro i c h; simp at h
  | cons y t _ ih =>
    intro i c h
    cases i with
    | zero => cases h; exact ⟨t, rfl⟩
    | succ j => exact ih h
section
variable {prog : Program} {w : World} {A : Around} {s : Shared} {env : Env}
end
end Mine
namespace Mine
section
variable {prog : Program} {w : World} {A : Around} {E : Value → Shared → Prop} {s : Shared} {h₀ : Heap} {l : Addr} {m : Str → Option Value} {news : List (Addr × Obj)} {env : Env}
end
end Mine
namespace Mine
section
variable {prog : Program} {w : World} {A : Around} {E : Value → Shared → Prop} {s : Shared} {h₀ : Heap} {L : Addr} {m : Str → Option Value} {news : List (Addr × Obj)} {env : Env}
end
end Mine
namespace Mine
section
variable {prog : Program} {w : World} {A : Around} {E : Value → Shared → Prop} {s : Shared} {h₀ : Heap} {L a b : Addr} {news : List (Addr × Obj)} {v1 v2 : Array Value} {k1 k2 : Nat} {ns ms : List Int} {Q : Value → Shared → Prop}
theorem sum_own {m : Str → Option Value} (F : Fr h₀ L s.heap m) (N : News h₀ L s.heap news) (hh : A.handled = none) (h1 : (a, listOf v1 k1) ∈ news) (i1 : IntsAre v1.toList ns)
    (h : ∀ h' tk t', Fr h₀ L h' m → News h₀ L h' news → Q (.int ns.sum t') { s with heap := h', toks := tk }) : wpAny (model prog w) A (call (.builtin "sum") [.ref a]) Q E s :=
  LSm.sum_ints (vs := v1.toList) F N hh ⟨_, (N _ h1).1, rfl, k1, rfl⟩ i1 h
theorem eq_own (N : News h₀ L s.heap news) (h1 : (a, listOf v1 k1) ∈ news) (h2 : (b, listOf v2 k2) ∈ news) (i1 : IntsAre v1.toList ns) (i2 : IntsAre v2.toList ms) (hu : A.units + 64 < cLine) (he : ns = ms) (h : Q (.bool true) s) : wpAny (model prog w) A (compareOp .Eq (.ref a) (.ref b)) Q E s := by
  refine eq_intsK (vs := v1.toList) (us := v2.toList) ⟨_, (N _ h1).1, rfl, k1, rfl⟩ i1 ⟨_, (N _ h2).1, rfl, k2, rfl⟩ i2 hu ?_
  rw [he, decide_eq_true rfl]
  exact h
end
section
variable {prog : Program} {w : World} {A : Around} {E : Value → Shared → Prop} {s : Shared} {h₀ : Heap} {m : Str → Option Value} {news : List (Addr × Obj)} {env : Env}
end
end Mine
namespace Mine
abbrev tupOf (its : Array Value) (n : Nat) : Obj := { cls := .type "tuple", data := .seq its n }
section
variable {prog : Program} {w : World} {A : Around} {E : Value → Shared → Prop} {s : Shared} {h₀ : Heap} {l : Addr} {m : Str → Option Value} {news : List (Addr × Obj)} {env : Env}
theorem for_tuple {target : Expr} {body : List Stmt} {its : Array Value} {n : Nat} {Q : Flow → Shared → Prop} (J : Nat → (Str → Option Value) → List (Addr × Obj) → Prop)
    (hh : A.handled = none) (F : Fr h₀ env.locals s.heap m) (N : News h₀ env.locals s.heap news)
    (hJ : ∀ i m n n' I, (∀ p ∈ news, p.1 ≠ I) → (∀ p ∈ n, isIter p.2 = false → p.1 ≠ I) → J i m n → (∀ p ∈ n, p.1 ≠ I → p ∈ n') → J i m n') (hl : ∀ i m n', J i m n' → (l, tupOf its n) ∈ n') (j0 : J 0 m news)
    (turn : ∀ i v m₁ n₁ h tk it, its[i]? = some v → J i m₁ n₁ → isIter it.2 = true → it ∈ n₁ → (∀ p ∈ news, p.1 ≠ it.1) → Fr h₀ env.locals h m₁ → News h₀ env.locals h n₁ →
      wpAny (model prog w) A (assign target env v) (fun _ s₂ => wpAny (model prog w) A (execs body env) (TurnEnd h₀ env.locals s it (J (i + 1)) Q) (notedBy (model prog w) A env fun e s' => cameBackBy (model prog w) A env E e s') s₂)
        (notedBy (model prog w) A env fun e s' => cameBackBy (model prog w) A env E e s') { s with heap := h, toks := tk })
    (done : ∀ m₁ n₁ h tk, J its.size m₁ n₁ → Fr h₀ env.locals h m₁ → News h₀ env.locals h n₁ → Q .next { s with heap := h, toks := tk }) :
    wpAny (model prog w) A (pyIter (.ref l)) (fun it s₂ => codeAny (model prog w) A (.forLoop target it body [] env) (fun r s' => match r with | .ok f => Q f s' | .error e => cameBackBy (model prog w) A env E e s') s₂) E s :=
  for_seqN (cn := "tuple_iterator") (ob := tupOf its n) (by decide) (fun Q' e h => wpAny_pyIter_tuple ⟨_, e, rfl, n, rfl⟩ h) (fun Q' E' s' I i v hit e hv h => wpAny_pyNext_tuple_item hit ⟨_, e, rfl, n, rfl⟩ hv h) (fun Q' E' s' I i hit e hv h => wpAny_pyNext_tuple_end hh hit ⟨_, e, rfl, n, rfl⟩ hv h) (fun Q' E' s' I i v hit h => letGo_tupleiter hit h) J F N hJ hl j0 turn done
end
end Mine
namespace Mine
theorem ints_get {vs : List Value} {ns : List Int} (h : IntsAre vs ns) : ∀ (i : Nat) v, vs[i]? = some v → ∃ z t, v = .int z t := by
  induction h with
  | nil => intro i v e; simp at e
  | cons n t _ ih =>
    intro i v e
    cases i with
    | zero => cases e; exact ⟨n, t, rfl⟩
    | succ j => exact ih j v e
theorem ints_of {Fm : Value → Prop} : ∀ {vs ys : List Value}, (∀ y, Fm y → ∃ z t, y = .int z t) → Paired (fun _ y => Fm y) vs ys → ∃ zs, IntsAre ys zs ∧ zs.length = vs.length
  | [], _, _, hp => by cases hp; exact ⟨[], .nil, rfl⟩
  | v :: vs, _, hF, hp => by
    cases hp with
    | @cons _ y _ ys a r =>
      obtain ⟨zs, h1, h2⟩ := ints_of hF r
      obtain ⟨z, t, rfl⟩ := hF _ a
      exact ⟨z :: zs, .cons z t h1, by rw [List.length_cons, List.length_cons, h2]⟩
section
variable {prog : Program} {w : World} {A : Around} {E : Value → Shared → Prop} {s : Shared} {env : Env}
theorem slice_keep {value slice : Expr} {l sl : Addr} {items : Array Value} {vl vu vk : Value} {lo hi st : Option Int} {ops : List Value} {Q : Value → Shared → Prop} (hl : s.heap.IsList l items) (hsl : s.heap.IsSliceOf sl vl vu vk) (pl : IsPart vl lo) (pu : IsPart vu hi) (pk : IsPart vk st) (h0 : st ≠ some 0) (hsz : items.size ≤ sizeLine)
    (h : ∀ D h', (∀ b o, s.heap.get? b = some o → h'.get? b = some o) → h'.get? D = some { cls := .type "list", data := .seq (slicePick items lo hi st) } → Q (.ref D) { s with heap := h' })
    (hs : subscripted slice false (.ref l) (.ref sl) = operate ops (getItem (.ref l) (.ref sl)) := by with_unfolding_all rfl)
    (ht : ∀ r, letTemporaryGo value (.ref l) r = pure () := by intro _; with_unfolding_all rfl) :
    wpAny (model prog w) A (subscriptTail value slice (.ref l) (.ref sl)) Q E s :=
  subscriptTail_ops hl.typeIs list_getitem_lookup (wpAny_getItem_list_slice hl hsl pl pu pk h0 (h _ _ (fun _ _ e => Heap.get?_push_of_some _ e) (Heap.get?_push_size _ rfl)) hsz) hs ht
theorem sum_keep {l : Addr} {vs : List Value} {ns : List Int} {Q : Value → Shared → Prop} (hh : A.handled = none) (hl : s.heap.IsList l vs.toArray) (hi : IntsAre vs ns)
    (h : ∀ h' tk z t', (∀ b o, s.heap.get? b = some o → h'.get? b = some o) → Q (.int z t') { s with heap := h', toks := tk }) : wpAny (model prog w) A (call (.builtin "sum") [.ref l]) Q E s := by
  obtain ⟨xs, hx⟩ := hi.allInts.items
  exact sum_intListG hh (hx ▸ hl) fun h' tk t' hk => h h' tk _ t' hk
/-- a comprehension over a list of whole numbers: remainders -/
theorem rests {its : Array Value} {n : Nat} {ns : List Int} {scope : Scope} {x : Str} {p1 p2 p3 px pos : Pos} {md : Int} {iter : Expr} {Q : Value → Shared → Prop}
    (hh : A.handled = none) (hmd : md ≠ 0) (hk : scope.kind = .function) (hfree : ∀ y ∈ scope.names, y.2 ≠ .free) (hcell : ∀ y ∈ scope.names, y.2 ≠ .cell) (hnames : ∀ y ∈ scope.names, y.2 = .local → scope.names.lookup y.1 = some .local) (hx : scope.names.lookup x = some .local)
    (hk2 : ∀ C, (compEnvC scope [] C env).scope.kind = .function) (hx2 : ∀ C, (compEnvC scope [] C env).kindOf x = some .local) (hdbg : (x == ("__debug__" : Str)) = false)
    (hi : IntsAre its.toList ns) (hsz : its.size ≤ sizeLine)
    (hiter : ∀ Q' : Value → Shared → Prop, (∀ h' tk l, (∀ b o, s.heap.get? b = some o → h'.get? b = some o) → h'.get? l = some (listOf its n) → Q' (.ref l) { s with heap := h', toks := tk }) → wpAny (model prog w) A (eval iter env) Q' E s)
    (hs : ∀ v, foldedSetIterable iter env v = pure v)
    (hQ : ∀ D h' tk ys zs, (∀ b o, s.heap.get? b = some o → h'.get? b = some o) → h'.IsList D ys → IntsAre ys.toList zs → Q (.ref D) { s with heap := h', toks := tk }) :
    wpAny (model prog w) A (eval (.ListComp (.BinOp (.Name x p1) .Mod (.Constant (.int md) 0 p2) p3) [⟨.Name x px, iter, [], 0⟩] scope pos) env) Q E s := by
  refine wpAny_ListComp_free (fun _ => true) (fun _ y => ∃ z t, y = .int z t) (closureFor_none hfree) hcell hk hnames hx (hiter _ fun h' tk l hk1 hl => ?_) hs
  have hL : h'.IsList l its := ⟨_, hl, rfl, n, rfl⟩
  have hlt := Heap.lt_size hl
  refine wpAny_pyIter_list hL ?_
  have up : ∀ b o, h'.get? b = some o → (h'.push { cls := .type "list_iterator", data := .fields #[.ref l, .int 0 0] }).get? b = some o := fun b o e => Heap.get?_push_of_some _ e
  refine ⟨_, _, _, _, _, _, rfl, Walks.list hh h'.objs.size l (Nat.ne_of_lt hlt) its, hsz, ⟨⟨_, Heap.get?_push_size _ rfl, rfl, rfl⟩, hL.push _⟩, ?_, ⟨fun C i v s₃ m₃ E' hC hP hn₃ hm₃ hk₃ _ => ?_, fun C i v s₃ m₃ E' hC hP _ hn₃ hm₃ hk₃ _ => ?_⟩, ?_⟩
  · intro b hb
    show b < (h'.push _).objs.size
    rw [Heap.size_push]
    rcases List.mem_cons.mp hb with rfl | hb
    · exact Nat.lt_succ_self _
    · rw [List.mem_singleton.mp hb]; exact Nat.lt_succ_of_lt hlt
  · exact wpAny_pure ⟨rfl, ⟨_, _, rfl, fun _ _ e => e⟩⟩
  · obtain ⟨z, t, rfl⟩ := ints_get hi i v (by rw [Array.getElem?_toList]; exact hP)
    refine wpAny_BinOp ?_
    refine wpAny_Name (wpAny_loadName_local (hk2 C) (hx2 C) hn₃ hm₃ ?_) hdbg
    refine wpAny_Constant_int ?_
    refine mod_int hmd ?_
    exact ⟨⟨_, _, rfl⟩, ⟨_, _, rfl, fun _ _ e => e⟩⟩
  · intro D h'' tk' ys vs hD hlD hpl hlen hP hF hk3
    obtain ⟨zs, h1, _⟩ := ints_of (fun y hy => hy) hF
    exact hQ D h'' tk' ys zs (fun b o e => hk3 b o (fun hm => by
      rw [List.mem_singleton.mp hm] at e
      exact absurd (Heap.lt_size (hk1 _ _ e)) (Nat.lt_irrefl _)) (up b o (hk1 b o e))) hlD h1
/-- own[k] + sum([n % md for n in numbers[k::st]]) -/
theorem cell_elt {scope scope2 : Scope} {cl : List (Str × Addr)} {p1 p2 p3 p4 p5 p6 p7 p8 p9 q1 q2 q3 q4 q5 q6 q7 : Pos} {co cn O Nn : Addr} {oO oN : Obj} {a b : Array Value} {ns ms : List Int} {H : Heap} {s₃ : Shared} {C : Addr} {i : Int} {t : Tok} {md st : Int} {mg mb : Str → Option Value} {m₃ : Str → Option Value} {E' : Value → Shared → Prop}
    (hh : A.handled = none) (hmd : md ≠ 0) (hst : st ≠ 0)
    (hk : (compEnvC scope cl C env).scope.kind = .function) (hj : (compEnvC scope cl C env).kindOf (Str.ofString "k") = some .local) (h1 : (compEnvC scope cl C env).kindOf (Str.ofString "own") = some .cell) (h2 : (compEnvC scope cl C env).kindOf (Str.ofString "numbers") = some .cell) (h3 : (compEnvC scope cl C env).kindOf (Str.ofString "sum") = some .globalImplicit)
    (l1 : cl.lookup (Str.ofString "own") = some co) (l2 : cl.lookup (Str.ofString "numbers") = some cn)
    (hO : H.get? co = some oO) (dO : oO.data = .cell (some (.ref O))) (hN : H.get? cn = some oN) (dN : oN.data = .cell (some (.ref Nn))) (hLO : H.IsList O a) (hLN : H.IsList Nn b) (hi : IntsAre a.toList ns) (hm : IntsAre b.toList ms) (hbz : b.size ≤ sizeLine)
    (gg : H.Ns (compEnvC scope cl C env).globals mg) (gm : mg (Str.ofString "sum") = none) (gb : H.Ns (compEnvC scope cl C env).builtins mb) (gs : mb (Str.ofString "sum") = some (.builtin "sum"))
    (hk2 : scope2.kind = .function) (hfree : ∀ y ∈ scope2.names, y.2 ≠ .free) (hcell : ∀ y ∈ scope2.names, y.2 ≠ .cell) (hnames : ∀ y ∈ scope2.names, y.2 = .local → scope2.names.lookup y.1 = some .local) (hx : scope2.names.lookup (Str.ofString "n") = some .local)
    (hk3 : ∀ C', (compEnvC scope2 [] C' (compEnvC scope cl C env)).scope.kind = .function) (hx2 : ∀ C', (compEnvC scope2 [] C' (compEnvC scope cl C env)).kindOf (Str.ofString "n") = some .local)
    (hn : s₃.heap.Ns C m₃) (hmk : m₃ (Str.ofString "k") = some (.int i t)) (h0 : 0 ≤ i) (hN2 : i < ns.length) (hfit : ns.length < 1000) (keep : ∀ b o, H.get? b = some o → s₃.heap.get? b = some o) :
    wpAny (model prog w) A (eval (.BinOp (.Subscript (.Name (Str.ofString "own") p1) (.Name (Str.ofString "k") p2) p3) .Add (.Call (.Name (Str.ofString "sum") p4) [.ListComp (.BinOp (.Name (Str.ofString "n") p5) .Mod (.Constant (.int md) 0 p6) p7) [⟨.Name (Str.ofString "n") p8, .Subscript (.Name (Str.ofString "numbers") p9) (.Slice (some (.Name (Str.ofString "k") q1)) none (some (.Constant (.int st) 0 q2)) q3) q4, [], 0⟩] scope2 q5] [] q6) q7) (compEnvC scope cl C env))
      (fun y s₄ => (∃ z t', y = .int z t') ∧ Keeps s₃ s₄) E' s₃ := by
  obtain ⟨z, hz⟩ : ∃ z, ns[i.toNat]? = some z := ⟨_, List.getElem?_eq_getElem (by omega)⟩
  obtain ⟨tz, ez⟩ := ints_at hi hz
  have eO := keep _ _ hO
  have eN := keep _ _ hN
  have kL : ∀ {X : Addr} {c : Array Value}, H.IsList X c → s₃.heap.IsList X c := fun ⟨o, e, r⟩ => ⟨o, keep _ _ e, r⟩
  have hLO' : s₃.heap.IsList O a.toList.toArray := kL hLO
  refine wpAny_BinOp ?_
  refine Subscript_ ?_
  refine wpAny_Name (wpAny_loadName_cell hk h1 l1 ⟨oO, eO, dO⟩ ?_)
  refine wpAny_Name (wpAny_loadName_local hk hj hn hmk ?_)
  refine item_listL hLO' h0 (by omega) ez ?_
  refine Call_ ?_
  refine Calls.Name_function_global hk h3 (Calls.loadGlobal_builtin (gg.keeps keep) gm (gb.keeps keep) gs ?_)
  refine PyProof.Rows.callWith_builtin1 ?_
  refine spliced_more ?_
  refine rests (its := slicePick b (some i) none (some st)) (n := 0) (ns := pickNums ms (some i) none (some st)) hh hmd hk2 hfree hcell hnames hx hk3 hx2 (by decide) (by have := hm.pick (some i) none (some st); simpa using this) (Nat.le_trans (slicePick_size_le b _ _ _) hbz) ?_ ?_ ?_
  · intro Q' hQ'
    refine Subscript_ ?_
    refine wpAny_Name (wpAny_loadName_cell hk h2 l2 ⟨oN, eN, dN⟩ ?_)
    refine wpAny_Slice ?_
    refine evalPart_some_step ?_
    refine wpAny_Name (wpAny_loadName_local hk hj hn hmk ?_)
    refine evalPart_none_step ?_
    refine evalPart_some_step ?_
    refine wpAny_Constant_int ?_
    refine slice_keep (lo := some i) (hi := none) (st := some st) ((kL hLN).push _) (Heap.IsSliceOf.new ..) (.int ..) .none (.int ..) (by simpa using hst) hbz fun D h' kp hD => ?_
    exact hQ' h' _ D (fun b o e => kp b o (Heap.get?_push_of_some _ e)) hD
  · intro _; with_unfolding_all rfl
  · intro D h' tk ys zs kp hD hI
    refine spliced_none ?_
    refine sum_keep (vs := ys.toList) hh hD hI fun h'' tk' z' t' kp2 => ?_
    refine PyProof.Rows.add_int ?_
    exact ⟨⟨_, _, rfl⟩, ⟨_, _, rfl, fun b o e => kp2 b o (kp b o e)⟩⟩
end
end Mine
namespace Mine
section
variable {prog : Program} {w : World} {A : Around} {E : Value → Shared → Prop} {s : Shared} {h₀ : Heap} {m : Str → Option Value} {news : List (Addr × Obj)} {env : Env}
/-- cells = [own[k] + sum([n % md for n in numbers[k::st]]) for k in range(N)] -/
theorem Assign_cells {scope scope2 : Scope} {cl : List (Str × Addr)} {p1 p2 p3 p4 p5 p6 p7 p8 p9 q1 q2 q3 q4 q5 q6 q7 px py pos spos : Pos} {iter : Expr} {y : Str} {co cn O Nn : Addr} {oO oN : Obj} {a b : Array Value} {ka kb : Nat} {ns ms : List Int} {md st : Int} {mg mb : Str → Option Value} {N : Nat} {Q : Flow → Shared → Prop}
    {L : Addr} (hL : env.locals = L) (hh : A.handled = none) (_F : Fr h₀ L s.heap m) (_N : News h₀ L s.heap news) (hmd : md ≠ 0) (hst : st ≠ 0)
    (hO : (co, oO) ∈ news) (dO : oO.data = .cell (some (.ref O))) (hN : (cn, oN) ∈ news) (dN : oN.data = .cell (some (.ref Nn))) (hLO : (O, listOf a ka) ∈ news) (hLN : (Nn, listOf b kb) ∈ news) (hi : IntsAre a.toList ns) (hm : IntsAre b.toList ms) (hbz : b.size ≤ sizeLine) (hnl : ns.length = N) (hfit : N < 1000)
    (gg : h₀.Ns env.globals mg) (gm : mg (Str.ofString "sum") = none) (gb : h₀.Ns env.builtins mb) (gs : mb (Str.ofString "sum") = some (.builtin "sum"))
    (hsw : swapsWith (.ListComp (.BinOp (.Subscript (.Name (Str.ofString "own") p1) (.Name (Str.ofString "k") p2) p3) .Add (.Call (.Name (Str.ofString "sum") p4) [.ListComp (.BinOp (.Name (Str.ofString "n") p5) .Mod (.Constant (.int md) 0 p6) p7) [⟨.Name (Str.ofString "n") p8, .Subscript (.Name (Str.ofString "numbers") p9) (.Slice (some (.Name (Str.ofString "k") q1)) none (some (.Constant (.int st) 0 q2)) q3) q4, [], 0⟩] scope2 q5] [] q6) q7)
      [⟨.Name (Str.ofString "k") px, iter, [], 0⟩] scope pos) (some (.Name y py)) spos.line env = pure true)
    (hclos : closureFor scope env = pure cl) (hcell : ∀ z ∈ scope.names, z.2 ≠ .cell) (hkind : scope.kind = .function)
    (hnames : ∀ z ∈ scope.names, z.2 = .local → scope.names.lookup z.1 = some .local) (hx : scope.names.lookup (Str.ofString "k") = some .local)
    (hy : env.kindOf y = some .local) (hp : (env.scope.kind == .class || (env.scope.kind == .module && env.locals != env.globals)) = false)
    (hk : ∀ C, (compEnvC scope cl C env).scope.kind = .function) (hj : ∀ C, (compEnvC scope cl C env).kindOf (Str.ofString "k") = some .local) (h1 : ∀ C, (compEnvC scope cl C env).kindOf (Str.ofString "own") = some .cell) (h2 : ∀ C, (compEnvC scope cl C env).kindOf (Str.ofString "numbers") = some .cell) (h3 : ∀ C, (compEnvC scope cl C env).kindOf (Str.ofString "sum") = some .globalImplicit)
    (l1 : cl.lookup (Str.ofString "own") = some co) (l2 : cl.lookup (Str.ofString "numbers") = some cn)
    (hk2 : scope2.kind = .function) (hfree : ∀ y ∈ scope2.names, y.2 ≠ .free) (hcell2 : ∀ y ∈ scope2.names, y.2 ≠ .cell) (hnames2 : ∀ y ∈ scope2.names, y.2 = .local → scope2.names.lookup y.1 = some .local) (hx2 : scope2.names.lookup (Str.ofString "n") = some .local)
    (hk3 : ∀ C C', (compEnvC scope2 [] C' (compEnvC scope cl C env)).scope.kind = .function) (hx3 : ∀ C C', (compEnvC scope2 [] C' (compEnvC scope cl C env)).kindOf (Str.ofString "n") = some .local)
    (hs : ∀ x, foldedSetIterable iter env x = pure x)
    (hiter : ∀ Q' : Value → Shared → Prop, (∀ h' tk r tu tv tw, Fr h₀ L h' m → News h₀ L h' news → IsRange h' r 0 (N : Nat) 1 tu tv tw → Q' (.ref r) { s with heap := h', toks := tk }) → wpAny (model prog w) A (eval iter env) Q' E s)
    (hQ : ∀ D h' tk ys k zs, Fr h₀ L h' (fun z => if z = y then some (.ref D) else m z) → News h₀ L h' ((D, listOf ys k) :: news) → IntsAre ys.toList zs → zs.length = N → (∀ q ∈ news, q.1 ≠ D) → Q .next { s with heap := h', toks := tk }) :
    wpAny (model prog w) A (exec (.Assign [.Name y py] (.ListComp (.BinOp (.Subscript (.Name (Str.ofString "own") p1) (.Name (Str.ofString "k") p2) p3) .Add (.Call (.Name (Str.ofString "sum") p4) [.ListComp (.BinOp (.Name (Str.ofString "n") p5) .Mod (.Constant (.int md) 0 p6) p7) [⟨.Name (Str.ofString "n") p8, .Subscript (.Name (Str.ofString "numbers") p9) (.Slice (some (.Name (Str.ofString "k") q1)) none (some (.Constant (.int st) 0 q2)) q3) q4, [], 0⟩] scope2 q5] [] q6) q7)
      [⟨.Name (Str.ofString "k") px, iter, [], 0⟩] scope pos) spos) env) Q E s := by
  subst hL
  refine wpAny_Assign_ListComp_free (fun _ => true) (fun _ y => ∃ z t, y = .int z t) hsw hclos hcell hkind hnames hx hy hp (hiter _ fun h' tk r tu tv tw F' N' hr => ?_) hs
  have hsm : Builtin.Range.small 0 (N : Nat) 1 = true := small_one (by omega) (by omega) (by omega) (by omega)
  have hn : Builtin.Range.rangeSize 0 (N : Nat) 1 = ((N : Nat) : Int) := rangeSize_nat _ _
  refine wpAny_pyIter_range hr hsm ?_
  rw [hn]
  dsimp only
  have up : ∀ b' o, h'.get? b' = some o → (h'.push { cls := .type "range_iterator", data := .fields #[rawInt 0, rawInt ((N : Nat) : Int), rawInt 1] }).get? b' = some o := fun b o e => Heap.get?_push_of_some _ e
  have hlt : ∀ b o, h'.get? b = some o → b ∉ [h'.objs.size] := fun b o e hm => by
    rw [List.mem_singleton.mp hm] at e
    exact absurd (Heap.lt_size e) (Nat.lt_irrefl _)
  have hLI : env.locals ∉ [h'.objs.size] := fun hm => by
    have := F'.ns.lt
    rw [List.mem_singleton.mp hm] at this
    exact Nat.lt_irrefl _ this
  refine ⟨_, _, _, _, _, _, m, rfl, walks_bound (Walks.range hh h'.objs.size 0 1 N), Nat.le_trans (Nat.le_of_lt hfit) (by decide), ?_, ?_, hLI, (F'.push _).ns, ⟨fun C i v s₃ m₃ E' hC hP hn₃ hm₃ hk₃ _ => ?_, fun C i v s₃ m₃ E' hC hP _ hn₃ hm₃ hk₃ _ => ?_⟩, ?_⟩
  · have e1 : (0 : Int) + ((0 : Nat) : Int) * 1 = 0 := by decide
    have e2 : (N : Int) - ((0 : Nat) : Int) = N := Int.sub_zero _
    show IsRangeIter _ _ ((0 : Int) + ((0 : Nat) : Int) * 1) ((N : Int) - ((0 : Nat) : Int)) 1
    rw [e1, e2]
    exact Heap.get?_push_size _ rfl
  · intro b hb
    rw [List.mem_singleton.mp hb]
    show _ < (h'.push _).objs.size
    rw [Heap.size_push]; exact Nat.lt_succ_self _
  · exact wpAny_pure ⟨rfl, ⟨_, _, rfl, fun _ _ e => e⟩⟩
  · obtain ⟨hi2, t, rfl⟩ := hP
    have keep : ∀ b o, h'.get? b = some o → s₃.heap.get? b = some o := fun b o e => hk₃ b o (hlt b o e) (up b o e)
    exact cell_elt hh hmd hst (hk C) (hj C) (h1 C) (h2 C) (h3 C) l1 l2 (N' _ hO).1 dO (N' _ hN).1 dN ⟨_, (N' _ hLO).1, rfl, ka, rfl⟩ ⟨_, (N' _ hLN).1, rfl, kb, rfl⟩ hi hm hbz (gg.keeps F'.keep) gm (gb.keeps F'.keep) gs hk2 hfree hcell2 hnames2 hx2 (hk3 C) (hx3 C) hn₃ hm₃ (by omega) (by omega) (by omega) keep
  · intro D h'' tk' ys vs hD hlD hpl hlen hP hF hns hk3
    rw [List.filter_eq_self.mpr (fun _ _ => rfl)] at hF
    obtain ⟨zs, g1, g2⟩ := ints_of (fun y hy => hy) hF
    have hD' : h'.get? D = none := by
      cases e : h'.get? D with
      | none => rfl
      | some o => rw [up D o e] at hD; cases hD
    have keep : ∀ b o, b ≠ env.locals → h'.get? b = some o → h''.get? b = some o := fun b o hb e => hk3 b o hb (hlt b o e) (up b o e)
    have hL0 : ∀ b o, h₀.get? b = some o → b ≠ env.locals := fun b o e eq => by
      have := Heap.lt_size e
      rw [eq] at this
      exact absurd (Nat.lt_of_lt_of_le this F'.above) (Nat.lt_irrefl _)
    obtain ⟨k, hpl⟩ := hpl
    refine hQ D h'' tk' ys k zs ⟨hns, fun b o e => keep b o (hL0 b o e) (F'.keep b o e), F'.above⟩ (fun q hq => ?_) g1 (g2.trans hlen) (fun q hq e => ?_)
    · rcases List.mem_cons.mp hq with rfl | hq
      · refine ⟨hpl, ?_, ?_⟩
        · rintro rfl
          obtain ⟨oL, _, _, e, _⟩ := F'.ns
          rw [hD'] at e; cases e
        · cases e : h₀.get? D with
          | none => rfl
          | some o => rw [F'.keep _ _ e] at hD'; cases hD'
      · exact ⟨keep _ _ (N' q hq).2.1 (N' q hq).1, (N' q hq).2⟩
    · have := (N' q hq).1
      rw [e, hD'] at this; cases this
end
end Mine
namespace Mine
open PySem PySem.W PyProof.Rows PySem.Builtin PySem.Builtin.Str
section
variable {prog : Program} {w : World} {A : Around} {E : Value → Shared → Prop} {s : Shared}
theorem field_man {id : String} {a : Array Value} {byName : PySem.Str → Sem Value} {v : Value} {Q : Value × Numbering → Shared → Prop} (ha : a[0]? = some v)
    (h : Q (v, .manual) s) : wpAny (model prog w) A (fieldObject id (some a) byName [48] .unset) Q E s := by
  unfold fieldObject
  refine wpAny_bind (wpAny_of_eq (a := some 0) rfl ?_)
  refine wpAny_bind (wpAny_of_eq (a := (some 0, .manual)) rfl ?_)
  simp only [ha, pure_bind]
  rw [KPc.range_list]
  exact wpAny_bind (wpAny_pure (wpAny_pure h))
theorem got_format {y : PySem.Str} {t u : Tok} {Q : Value → Shared → Prop} (hy : y.length ≤ 100000)
    (h : ∀ t' k, Q (.str ((PySem.Str.ofString "Header names/values must be of type str (got " ++ y) ++ PySem.Str.ofString ")") t') { s with toks := k }) :
    wpAny (model prog w) A (call (.builtin "str.format") [.str (PySem.Str.ofString "Header names/values must be of type str (got {0})") t, .str y u]) Q E s := by
  refine KFm.call_k (by kfm_eq) (by kfm_args) ?_ h
  apply KPc.meets_of
  intro _ _ _ _ _ _ _
  unfold Builtin.«str.format»
  refine wpAny_bind (wpAny_of_eq (a := (_, _, _)) rfl ?_)
  refine wpAny_bind ?_
  unfold Builtin.Str.buildString
  refine wpAny_bind ?_
  rw [KPc.range_list]
  refine KFm.start ?_
  intro _ _
  refine KPc.turn ?_; kpc_if
  kpc_check
  refine wpAny_bind (field_man (by rfl) ?_)
  refine wpAny_bind (wpAny_holding (wpAny_of_eq (a := _) rfl ?_))
  kpc_if
  refine wpAny_bind (wpAny_pure ?_)
  kfm_val
  refine wpAny_bind (wpAny_of_eq (a := some _) rfl ?_)
  refine wpAny_pure ?_
  refine KFm.after_field (by kpc_g) (by kpc_text) (by kpc_obj) (by exact hy) (by kpc_obj) (by kfm_cat2) (by kfm_rest) ?_
  intro _ _
  kfm_turns
end
end Mine
namespace Mine
section
variable {M : Model} {A : Around} {E : Value → Shared → Prop} {s : Shared}
theorem setFlight_held {base : Heap} {l : List Env} {e L : Addr} {cls a0 : Value} {Q : Unit → Shared → Prop} (R : Heap.HeldW base l e cls a0 L s.heap)
    (h : ∀ h', Heap.HeldW base l e cls a0 L h' → s.heap.UpToSlots h' → Q () { s with heap := h' }) : wpAny M A (setFlight (.ref e) (some L)) Q E s := by
  obtain ⟨hkb, hen, hl, oe, vs, T, oT, ts, he, hcls, hd, h1, hnT, hTe, hT, hdT, h3⟩ := R
  have hsz3 : 3 < ts.size := (Array.getElem?_eq_some_iff.mp h3).1
  have ne : ∀ b o, s.heap.get? b = some o → (∀ vs, o.data ≠ .fields vs) → b ≠ T := fun b o hb hnf q => by
    subst q
    rw [hT] at hb
    cases hb
    exact hnf ts hdT
  unfold setFlight
  refine wpAny_bind (wpAny_field he hd h1 ?_)
  rw [if_pos (show (Value.ref T != Value.none) = true from by simp)]
  refine wpAny_setField hT hdT hsz3 (h _ ⟨fun b o hbo => ?_, hen, hl.of_keeps fun b o hb hnf => ⟨o, ?_, rfl⟩, ?_⟩ fun b o hb hnf => ⟨o.slots, ?_⟩)
  · rw [Heap.get?_update_other _ _ (fun q => by rw [← q, hnT] at hbo; cases hbo)]
    exact hkb b o hbo
  · rw [Heap.get?_update_other _ _ (Ne.symm (ne b o hb hnf))]
    exact hb
  · exact ⟨oe, vs, T, _, _, (Heap.get?_update_other _ _ hTe).trans he, hcls, hd, h1, hnT, hTe, Heap.get?_update_self _ hT (Obj.isFreed_of_fields (Obj.data_mapFields hdT _)), Obj.data_mapFields hdT _, by simp [hsz3]⟩
  · rw [Heap.get?_update_other _ _ (Ne.symm (ne b o hb hnf))]
    exact hb
/-- a raise within a loop's turn: noted, and back in the frame -/
theorem noted_back {base G : Heap} {name : Str} {scope : Scope} {L a e t : Addr} {cd cls : Value} {outer : List Env} {vs : List Value} {news : List (Addr × Obj)} (hfr : A.frames = some (envOf name scope L a cd :: outer)) (R : RaisedS base G (envOf name scope L a cd :: outer) e cls t vs news s.heap) (hsm : G.UpToSlots s.heap)
    (k : ∀ h', RaisedH base G (envOf name scope L a cd :: outer) L e cls t vs news h' → G.UpToSlots h' → E (.ref e) { s with heap := h' }) :
    notedBy M A (envOf name scope L a cd) (fun e s' => cameBackBy M A (envOf name scope L a cd) E e s') (.ref e) s := by
  obtain ⟨⟨B, hB, hBG, hl, hfl, hnew⟩, htup⟩ := R
  unfold notedBy
  refine wpAny_looks_onW hfr rfl hfl fun h₄ hheld hs4 => ?_
  obtain ⟨_, _, _, oe, ws, T, oT, ts, he, hc, hd, h1, _⟩ := id hheld
  unfold cameBackBy
  refine wpAny_bind (wpAny_field he hd h1 ?_)
  rw [if_neg (show ¬ ((Value.ref T == Value.none) = true) from by simp)]
  first
    | exact wpAny_bind (wpAny_pure (setFlight_held (s := { s with heap := h₄ }) hheld fun h' hh hs => k h' ⟨⟨B, hB, hBG, hl, hh, hnew⟩, (htup.of_slots hs4).of_slots hs⟩ ((hsm.trans hs4).trans hs)))
    | exact setFlight_held (s := { s with heap := h₄ }) hheld fun h' hh hs => k h' ⟨⟨B, hB, hBG, hl, hh, hnew⟩, (htup.of_slots hs4).of_slots hs⟩ ((hsm.trans hs4).trans hs)
end
end Mine
namespace Mine
open PySem PySem.W PyProof.Rows PySem.Calls
section
variable {prog : Program} {w : World} {A₀ A : Around} {s : Shared} {base h₀ : Heap} {env : Env} {L : Addr} {m : Str → Option Value} {news : List (Addr × Obj)} {K : Frag} {p : Program} {loose : List Str} {mean : ExcName → Option Value} {mg mb : Str → Option Value}
    {R : Result → Shared → Prop} {name qual : Str} {params : Arguments} {body : List Stmt} {scope : Scope} {dV kV doc pm cdv ct oc : Value} {an od : Option Addr} {osl : Array (Option Value)} {f : Addr} {args : Args} {binds : List (Str × Value)}
/-- behind a caught raise the caller's frame and ledger stand again -/
theorem turn_back {g g' h : Heap} {L' : Addr} {m' : Str → Option Value} {news' : List (Addr × Obj)} (st : h₀.StaysIn g) (FG : Fr h₀ L g m) (T : KtsTurn [L] g g') (F' : Fr g' L' h m') (N' : News g' L' h news') : Fr h₀ L h m ∧ News h₀ L h news' := by
  have nL₀ : h₀.get? L = none := kts_self FG
  obtain ⟨oL, es, ep, hL, hLd, hLk, hLf⟩ := FG.ns
  obtain ⟨sl, hs⟩ := T.frame L oL hL (List.mem_singleton.mpr rfl)
  refine ⟨⟨⟨_, es, ep, F'.keep _ _ hs, hLd, hLk, hLf⟩, fun b o e => F'.keep b o (T.other b o (st b o e) fun q => ?_), FG.above⟩, fun q hq => ⟨(N' q hq).1, fun e => ?_, ?_⟩⟩
  · rw [List.mem_singleton.mp q, nL₀] at e
    cases e
  · have := (N' q hq).2.2
    rw [e, hs] at this
    cases this
  · cases e : h₀.get? q.1 with
    | none => rfl
    | some o =>
      obtain ⟨sl', hs'⟩ := T.up (st _ _ e)
      have := (N' q hq).2.2
      rw [hs'] at this
      cases this
def LeaveT (es : List Env) (h₀ : Heap) (L : Addr) (m : Str → Option Value) (g : Heap) (R : Result → Shared → Prop) (v : Value) (s' : Shared) : Prop := ∃ g' L' m' news', KtsTurn (es.filterMap (·.frame)) g g' ∧ Fr g' L' s'.heap m' ∧ News g' L' s'.heap news' ∧ (Fr h₀ L s'.heap m → News h₀ L s'.heap news' → R (.ok (.ret v)) s')
theorem leaveT_ {es : List Env} {g g' : Heap} {L' : Addr} {m' : Str → Option Value} {news' : List (Addr × Obj)} {v : Value} {s' : Shared} (T : KtsTurn (es.filterMap (·.frame)) g g') (F : Fr g' L' s'.heap m') (N : News g' L' s'.heap news') (k : Fr h₀ L s'.heap m → News h₀ L s'.heap news' → R (.ok (.ret v)) s') : LeaveT es h₀ L m g R v s' := ⟨g', L', m', news', T, F, N, k⟩
theorem code_try (B : Below A₀ base [] h₀) (F : Fr h₀ L s.heap m) (X₀ : K.In h₀) (N : News h₀ L s.heap news) (T : Top p loose mean mg mb h₀) (hA : A.frames = some [env]) (hf : env.frame = some L) (hke : env.scope.kind = .function)
    (ho : K.lookup f = some ⟨oc, od, .func (fnOf name qual params body scope dV kV doc pm an cdv ct), osl⟩) (hcd : codeIn K cdv qual = true) (hroom : A.depth < recursionLimit)
    (hbind : BindsTo s (fnOf name qual params body scope dV kV doc pm an cdv ct) args binds) (hloc : ∀ y ∈ binds, scope.names.lookup y.1 = some .local)
    (h : ∀ g L' h₁ tk, Fr h₀ L g m → Fr g L' h₁ (fun y => binds.reverse.lookup y) → News g L' h₁ news → Below A base [env] g → K.In g → Top p loose mean mg mb g → KtsDicts ([env].filterMap (·.frame)) g → KtsTurn ([env].filterMap (·.frame)) g g →
      wpAny (model prog w) (A.deeper (envOf qual scope L' f cdv)) (execs body (envOf qual scope L' f cdv))
        (fun fl s' => LeaveT [env] h₀ L m g R (match fl with | .ret v => v | _ => .none) s')
        (fun e s' => wpAny (model prog w) (A.deeper (envOf qual scope L' f cdv)) (leaving (envOf qual scope L' f cdv) e) (fun _ s'' => R (.error e) s'') (fun e' s'' => R (.error e') s'') s')
        { s with heap := h₁, toks := tk })
    (hco : scope.isCoroutine = false) (hgen : scope.isGenerator = false) (hk : scope.kind = .function)
    (hcell : ∀ x ∈ scope.names, x.2 ≠ .cell) : codeAny (model prog w) A (.call (.ref f) args) R s := by
  have X := X₀.keeps F.keep
  have ef : [env].filterMap (·.frame) = [L] := by simp [hf]
  obtain ⟨FG, BG, st, lv⟩ := groundX (R := R) B F N hA hf hke
  refine codeAny_call_def (fd := fnOf name qual params body scope dV kV doc pm an cdv ct) (body := body) (binds := binds) hroom (X _ _ ho) rfl (T.nolimit.keeps F.keep) (codeRec_of X hcd) rfl hbind hcell hloc (fun h₁ hns hk₁ => ?_) hco hgen hk
  have FG' : Fr (hideAll s.heap (news.map fun q : Addr × Obj => q.1)) s.heap.objs.size h₁ (fun y => binds.reverse.lookup y) := ⟨hns, fun b o e => hk₁ b o (of_hideAll _ e), Nat.le_of_eq (hideAll_size _ _)⟩
  refine wpAny_mono (h _ s.heap.objs.size h₁ _ FG FG' (fun q hq => ⟨hk₁ _ _ (N q hq).1, Nat.ne_of_lt (Heap.lt_size (N q hq).1), hideAll_none _ (List.mem_map_of_mem hq)⟩) BG (X₀.keeps st) (T.keeps st) (fun b hb => ?_) KtsTurn.refl) (fun fl s' hl => ?_) fun _ _ y => y
  · rw [ef] at hb
    rw [List.mem_singleton.mp hb]
    obtain ⟨oL, es, ep, a, b, _⟩ := FG.ns
    exact ⟨oL, es, ep, a, b⟩
  · obtain ⟨g', L', m', news', T', F', N', k⟩ := hl
    rw [ef] at T'
    obtain ⟨F1, N1⟩ := turn_back st FG T' F' N'
    exact k F1 N1
end
end Mine
namespace Mine
section
variable {prog : Program} {w : World} {A : Around} {E : Value → Shared → Prop} {s : Shared} {h₀ : Heap} {L l : Addr} {m : Str → Option Value} {news : List (Addr × Obj)}
/-- units at a handler of the first def -/
theorem units_deed {env : Env} {x : Option Value} (hu : A.units + 64 < cLine) : ((A.deeper env).mark x).units + 2 < cLine := by
  show A.units + 3 + 2 < cLine
  omega
end
end Mine
namespace Mine
open PySem PySem.W PyProof.Rows PySem.Calls
theorem mapSeq_to (f : Array Value → Array Value) (its : Array Value) (n : Nat) : ∃ n', Obj.mapSeq f (listOf its n) = listOf (f its) n' := by
  unfold Obj.mapSeq
  exact ⟨_, rfl⟩
section
variable {prog : Program} {w : World} {A : Around} {E : Value → Shared → Prop} {s : Shared} {h₀ : Heap} {L l : Addr} {m : Str → Option Value} {news : List (Addr × Obj)}
/-- own clear -/
theorem clear_L {its : Array Value} {n : Nat} {Q : Value → Shared → Prop} (F : Fr h₀ L s.heap m) (N : News h₀ L s.heap news) (hl : (l, listOf its n) ∈ news) (hsz : its.size ≤ sizeLine)
    (h : ∀ h' n', Fr h₀ L h' m → News h₀ L h' (upd l (listOf #[] n') news) → Q .none { s with heap := h' }) : wpAny (model prog w) A (call (.builtin "list.clear") [.ref l]) Q E s := by
  have z := N _ hl
  obtain ⟨n', hn⟩ := mapSeq_to (fun _ => #[]) its n
  have hs : Heap.SameBut l s.heap (s.heap.update l (Obj.mapSeq fun _ => #[])) := Heap.SameBut.update ..
  have ho : (s.heap.update l (Obj.mapSeq fun _ => #[])).get? l = some (listOf #[] n') := by
    rw [Heap.get?_update_self _ z.1 (by rw [hn]; rfl), hn]
  exact call_meets PySem.F.slot_list_clear ⟨_, z.1, rfl⟩ PySem.F.entry_list_clear (PySem.F.args_list_clear_1 _) (PySem.AutoSeq1.list_clear_list_0 l its n hsz) ⟨z.1, h _ n' (F.change hs z.2.1 z.2.2) (news_upd N hl hs ho)⟩
/-- own extend by a list -/
theorem extend_L {b : Addr} {its its2 : Array Value} {n n2 : Nat} {Q : Value → Shared → Prop} (F : Fr h₀ L s.heap m) (N : News h₀ L s.heap news) (hl : (l, listOf its n) ∈ news) (hb : (b, listOf its2 n2) ∈ news)
    (hz : its.size + its2.size ≤ 100000)
    (h : ∀ h' n', Fr h₀ L h' m → News h₀ L h' (upd l (listOf (its ++ its2) n') news) → Q .none { s with heap := h' }) : wpAny (model prog w) A (call (.builtin "list.extend") [.ref l, .ref b]) Q E s := by
  have z := N _ hl
  obtain ⟨n', hn⟩ := mapSeq_to (fun xs => xs ++ its2) its n
  have hs : Heap.SameBut l s.heap (s.heap.update l (Obj.mapSeq fun xs => xs ++ its2)) := Heap.SameBut.update ..
  have ho : (s.heap.update l (Obj.mapSeq fun xs => xs ++ its2)).get? l = some (listOf (its ++ its2) n') := by
    rw [Heap.get?_update_self _ z.1 (by rw [hn]; rfl), hn]
  have e1 : (Builtin.List.listTooLong (its.size + its2.size)) = false := by
    simp only [Builtin.List.listTooLong]; rw [decide_eq_false_iff_not]; have e := sizeLine_eq; omega
  refine call_meets PySem.F.slot_list_extend ⟨_, z.1, rfl⟩ PySem.F.entry_list_extend (PySem.F.args_list_extend_2 _ _) (PySem.AutoSeq1.list_extend_list_list_0 l its n b its2 n2 ?_ (by rw [sizeLine_eq]; omega) (by rw [sizeLine_eq]; omega)) ⟨z.1, (N _ hb).1, h _ n' (F.change hs z.2.1 z.2.2) (news_upd N hl hs ho)⟩
  rw [e1, Bool.and_false]
  exact Bool.false_ne_true
end
end Mine
namespace Mine
section
variable {prog : Program} {w : World} {A : Around} {E : Value → Shared → Prop} {s : Shared} {h₀ : Heap} {L : Addr} {m : Str → Option Value} {news : List (Addr × Obj)} {env : Env}
/-- what an element of a comprehension must do, in terms of the ledger -/
def ElemOk (prog : Program) (w : World) (A : Around) (env : Env) (scope : Scope) (cl : List (Str × Addr)) (x : Str) (elt : Expr) (h₀ : Heap) (L : Addr) (m : Str → Option Value) (s : Shared) (news : List (Addr × Obj)) (J : Nat → List Value → List (Addr × Obj) → Prop) (P : Nat → Value → Prop) (n : Nat) : Prop :=
  ∀ C i v zs n₁ n₂ h tk m₃ E', i < n → P i v → J i zs n₁ → zs.length = i → (∀ q ∈ news, q ∈ n₁) → (∀ q ∈ n₁, q ∈ n₂) → Fr h₀ L h m → News h₀ L h n₂ → h.Ns C m₃ → m₃ x = some v → (∃ oC, (C, oC) ∈ n₂) →
   wpAny (model prog w) A (eval elt (compEnvC scope cl C env)) (fun y s₄ => ∃ h' tk' nw, s₄ = { s with heap := h', toks := tk' } ∧ Fr h₀ L h' m ∧ News h₀ L h' (nw ++ n₂) ∧ (∀ q ∈ nw, ∀ e ∈ n₂, e.1 ≠ q.1) ∧ J (i + 1) (zs ++ [y]) (nw ++ n₁)) E' { s with heap := h, toks := tk }
/-- a loop of a comprehension, by its turn's rule: what it appends lies behind what was there (zs0); the entries ex stand beside -/
theorem comp_gen {elt : Expr} {y : Str} {py : Pos} {scope' : Scope} {cl : List (Str × Addr)} {c0 : Code} {I C D : Addr} {fp wr : List Addr} {k : Nat} {P P2 : Nat → Value → Prop} {St : Nat → Heap → Prop} {R : Result → Shared → Prop} {mC : Str → Option Value} {h : Heap} {tk b : Nat} {Pm : (Str → Option Value) → Prop} {zs0 : List Value} {nJ ex : List (Addr × Obj)}
    (hloop : ∀ (I' : Nat → Shared → Prop), (∀ n s, I' n s → wpAny (model prog w) A (pyNext (.ref I)) (fun r s₁ => match r with
      | none => R (.ok .next) s₁
      | some v => wpAny (model prog w) A (assign (.Name y py) (compEnvC scope' cl C env) v) (fun _ s₂ => wpAny (model prog w) A (eval elt (compEnvC scope' cl C env)) (fun x s₄ =>
              wpAny (model prog w) A (call (.builtin "list.append") [.ref D, x]) (fun _ s₅ => ∃ m, m < n ∧ I' m s₅) (notedBy (model prog w) A (compEnvC scope' cl C env) fun e s' => R (.error e) s') s₄) (notedBy (model prog w) A (compEnvC scope' cl C env) fun e s' => R (.error e) s') s₂) (notedBy (model prog w) A (compEnvC scope' cl C env) fun e s' => R (.error e) s') s₁) (notedBy (model prog w) A (compEnvC scope' cl C env) fun e s' => R (.error e) s') s) →
      ∀ n s, I' n s → codeAny (model prog w) A c0 R s)
    (J : Nat → List Value → List (Addr × Obj) → Prop) (W : Walks prog w A I fp wr k P St) (hI : ∀ i h, St i h → ∃ o, h.get? I = some o) (hfp : ∀ b ∈ fp, b = I ∨ ∃ o, (b, o) ∈ ex ++ news) (hwr : ∀ b ∈ wr, b = I) (hPP : ∀ j v, P j v → P2 j v)
    (hy : (compEnvC scope' cl C env).kindOf y = some .local) (hp : ((compEnvC scope' cl C env).scope.kind == .class || ((compEnvC scope' cl C env).scope.kind == .module && (compEnvC scope' cl C env).locals != (compEnvC scope' cl C env).globals)) = false)
    (hDC : D ≠ C) (hDI : D ≠ I) (hCI : C ≠ I) (nI : ∀ q ∈ ex ++ nJ, q.1 ≠ I ∧ q.1 ≠ C ∧ q.1 ≠ D) (fI : I ≠ L ∧ h₀.get? I = none) (fC : C ≠ L ∧ h₀.get? C = none) (fD : D ≠ L ∧ h₀.get? D = none)
    (F : Fr h₀ L h m) (N : News h₀ L h (ex ++ nJ)) (hst : St 0 h) (hacc : h.PlainList D zs0.toArray) (hn : h.Ns C mC) (hx : Pm mC) (hPm : ∀ m v, Pm m → Pm fun z => if z = y then some v else m z) (hz0 : zs0.length = b) (hsz : b + k ≤ sizeLine) (j0 : J b zs0 nJ) (sub0 : ∀ q ∈ news, q ∈ nJ) (ap0 : ∀ q ∈ nJ, ∀ e ∈ ex, e.1 ≠ q.1)
    (elem : ∀ j v zs n₁ n₂ h tk m₃ E', j < k → P2 j v → J (b + j) zs n₁ → zs.length = b + j → (∀ q ∈ news, q ∈ n₁) → (∀ q ∈ n₁, q ∈ n₂) → Fr h₀ L h m → News h₀ L h n₂ → h.Ns C m₃ → Pm m₃ → m₃ y = some v → (∃ oC, (C, oC) ∈ n₂) →
      wpAny (model prog w) A (eval elt (compEnvC scope' cl C env)) (fun z s₄ => ∃ h' tk' nw, s₄ = { s with heap := h', toks := tk' } ∧ Fr h₀ L h' m ∧ News h₀ L h' (nw ++ n₂) ∧ (∀ q ∈ nw, ∀ e ∈ n₂, e.1 ≠ q.1) ∧ J (b + j + 1) (zs ++ [z]) (nw ++ n₁)) E' { s with heap := h, toks := tk })
    (hR : ∀ h' tk m' zs n₁, h'.Ns C m' → h'.PlainList D zs.toArray → Fr h₀ L h' m → News h₀ L h' (ex ++ n₁) → (∀ q ∈ ex ++ n₁, q.1 ≠ I ∧ q.1 ≠ C ∧ q.1 ≠ D) → (∀ q ∈ n₁, ∀ e ∈ ex, e.1 ≠ q.1) → (∀ q ∈ news, q ∈ n₁) → J (b + k) zs n₁ → zs.length = b + k → R (.ok .next) { s with heap := h', toks := tk }) :
    codeAny (model prog w) A c0 R { s with heap := h, toks := tk } := by
  refine hloop
    (fun c s' => ∃ h tk mC zs n₁ j, s' = { s with heap := h, toks := tk } ∧ St j h ∧ h.PlainList D zs.toArray ∧ h.Ns C mC ∧ Pm mC ∧ Fr h₀ L h m ∧ News h₀ L h (ex ++ n₁) ∧ (∀ q ∈ ex ++ n₁, q.1 ≠ I ∧ q.1 ≠ C ∧ q.1 ≠ D) ∧ (∀ q ∈ n₁, ∀ e ∈ ex, e.1 ≠ q.1) ∧ (∀ q ∈ news, q ∈ n₁) ∧ J (b + j) zs n₁ ∧ zs.length = b + j ∧ j ≤ k ∧ c = k + 1 - j) ?_ (k + 1) _
    ⟨h, tk, mC, zs0, nJ, 0, rfl, hst, hacc, hn, hx, F, N, nI, ap0, sub0, j0, hz0, Nat.zero_le _, rfl⟩
  rintro c s' ⟨h, tk, mC, zs, n₁, j, rfl, hst, hacc, hn, hx, F, N, nn, ap, sub, hJ, hzl, hj, rfl⟩
  have nwr : ∀ b, b ≠ I → b ∉ wr := fun b hb hm => hb (hwr b hm)
  have up : ∀ q ∈ ex ++ news, q ∈ ex ++ n₁ := fun q hq => (List.mem_append.mp hq).elim (List.mem_append_left _) fun h => List.mem_append_right _ (sub q h)
  by_cases hlt : j < k
  · refine W.item j _ _ _ hlt hst fun v h₁ tk₁ hPv hst₁ hk₁ => ?_
    have k₁ : ∀ b o, b ≠ I → h.get? b = some o → h₁.get? b = some o := fun b o hb e => hk₁ b o (nwr b hb) e
    refine wpAny_assign_Name (wpAny_storeName_local hy (hn.at' fun o e => k₁ _ o hCI e) (fun h₂ hn₂ hs₂ => ?_) hp)
    have k₂ : ∀ b o, b ≠ C → h₁.get? b = some o → h₂.get? b = some o := fun b o hb e => hs₂.extBut b o hb e
    have hfC : ∀ b ∈ fp, b ≠ C := fun b hb e => by
      rcases hfp b hb with rfl | ⟨o, ho⟩
      · exact hCI e.symm
      · exact (nn _ (up _ ho)).2.1 e
    have hst₂ : St (j + 1) h₂ := W.frame _ _ _ hst₁ fun b hb o e => k₂ b o (hfC b hb) e
    obtain ⟨oI, eI⟩ := hI _ _ hst₂
    obtain ⟨oC, esC, epC, eC, rC⟩ := id hn₂
    obtain ⟨kD, eD⟩ := hacc.at (h' := h₂) fun o e => k₂ _ o hDC (k₁ _ o hDI e)
    have F₂ : Fr h₀ L h₂ m := fr_but' (fr_but' F k₁ (Ne.symm fI.1) fI.2) k₂ (Ne.symm fC.1) fC.2
    have N₂ : News h₀ L h₂ ((I, oI) :: (C, oC) :: (D, listOf zs.toArray kD) :: (ex ++ n₁)) := fun q hq => by
      rcases List.mem_cons.mp hq with rfl | hq
      · exact ⟨eI, fI⟩
      · rcases List.mem_cons.mp hq with rfl | hq
        · exact ⟨eC, fC⟩
        · rcases List.mem_cons.mp hq with rfl | hq
          · exact ⟨eD, fD⟩
          · exact ⟨k₂ _ _ (nn q hq).2.1 (k₁ _ _ (nn q hq).1 (N q hq).1), (N q hq).2⟩
    refine wpAny_mono (elem j v zs n₁ _ h₂ _ _ _ hlt (hPP _ _ hPv) hJ hzl sub (fun q hq => .tail _ (.tail _ (.tail _ (List.mem_append_right _ hq)))) F₂ N₂ hn₂ (hPm _ _ hx) (by simp) ⟨oC, .tail _ (.head _)⟩) (fun z s₄ h₄ => ?_) fun _ _ e => e
    obtain ⟨h₃, tk₃, nw, rfl, F₃, N₃, fr₃, hJ₃⟩ := h₄
    have k₃ : ∀ q ∈ ((I, oI) :: (C, oC) :: (D, listOf zs.toArray kD) :: (ex ++ n₁)), h₃.get? q.1 = some q.2 := fun q hq => (N₃ q (List.mem_append_right _ hq)).1
    have hst₃ : St (j + 1) h₃ := W.frame _ _ _ hst₂ fun b hb o e => by
      rcases hfp b hb with rfl | ⟨o', ho⟩
      · have := k₃ _ (.head _)
        rw [eI] at e; cases e; exact this
      · have e2 := k₃ _ (.tail _ (.tail _ (.tail _ (up _ ho))))
        have e3 := (N₂ _ (.tail _ (.tail _ (.tail _ (up _ ho))))).1
        dsimp only at e2 e3
        rw [e3] at e; cases e; exact e2
    have hn₃ : h₃.Ns C _ := ⟨oC, esC, epC, k₃ _ (.tail _ (.head _)), rC⟩
    refine wpAny_list_append_plain (items := zs.toArray) (hsz := by rw [List.size_toArray]; omega) ⟨kD, k₃ _ (.tail _ (.tail _ (.head _)))⟩ fun h₅ hl₅ hs₅ => ?_
    have k₅ : ∀ b o, b ≠ D → h₃.get? b = some o → h₅.get? b = some o := fun b o hb e => hs₅.extBut b o hb e
    have nn' : ∀ q ∈ ex ++ (nw ++ n₁), q.1 ≠ I ∧ q.1 ≠ C ∧ q.1 ≠ D := fun q hq => by
      rcases List.mem_append.mp hq with hq | hq
      · exact nn q (List.mem_append_left _ hq)
      · rcases List.mem_append.mp hq with hq | hq
        · exact ⟨fun e => fr₃ q hq (I, _) (.head _) e.symm, fun e => fr₃ q hq (C, _) (.tail _ (.head _)) e.symm, fun e => fr₃ q hq (D, _) (.tail _ (.tail _ (.head _))) e.symm⟩
        · exact nn q (List.mem_append_right _ hq)
    refine ⟨k + 1 - (j + 1), cnt_down hlt, h₅, tk₃, _, zs ++ [z], nw ++ n₁, j + 1, rfl, ?_, by simpa using hl₅, hn₃.at' fun o e => k₅ _ o (Ne.symm hDC) e, hPm _ _ hx, fr_but' F₃ k₅ (Ne.symm fD.1) fD.2, fun q hq => ?_, nn', fun q hq e he => ?_, fun q hq => List.mem_append_right _ (sub q hq), hJ₃, ?_, hlt, rfl⟩
    · refine W.frame _ _ _ hst₃ fun b hb o e => k₅ b o (fun q => ?_) e
      rcases hfp b hb with rfl | ⟨o', ho⟩
      · exact hDI q.symm
      · exact (nn _ (up _ ho)).2.2 q
    · have := N₃ q (by
        rcases List.mem_append.mp hq with hq | hq
        · exact List.mem_append_right _ (.tail _ (.tail _ (.tail _ (List.mem_append_left _ hq))))
        · rcases List.mem_append.mp hq with hq | hq
          · exact List.mem_append_left _ hq
          · exact List.mem_append_right _ (.tail _ (.tail _ (.tail _ (List.mem_append_right _ hq)))))
      exact ⟨k₅ _ _ (nn' q hq).2.2 this.1, this.2⟩
    · rcases List.mem_append.mp hq with hq | hq
      · exact fr₃ q hq e (.tail _ (.tail _ (.tail _ (List.mem_append_left _ he))))
      · exact ap q hq e he
    · rw [List.length_append, hzl]; rfl
  · have hin : j = k := by omega
    subst hin
    refine W.done _ _ _ hst fun h₁ tk₁ hk₁ => ?_
    have k₁ : ∀ b o, b ≠ I → h.get? b = some o → h₁.get? b = some o := fun b o hb e => hk₁ b o (nwr b hb) e
    exact hR h₁ tk₁ mC zs n₁ (hn.at' fun o e => k₁ _ o hCI e) (hacc.at fun o e => k₁ _ o hDI e) (fr_but' F k₁ (Ne.symm fI.1) fI.2) (fun q hq => ⟨k₁ _ _ (nn q hq).1 (N q hq).1, (N q hq).2⟩) nn ap sub hJ hzl
theorem comp_loop_own {elt iter : Expr} {x : Str} {px : Pos} {scope scope' : Scope} {cl : List (Str × Addr)} {pos : Pos} {I C D : Addr} {fp wr : List Addr} {n : Nat} {P : Nat → Value → Prop} {St : Nat → Heap → Prop} {R : Result → Shared → Prop} {mC : Str → Option Value} {h : Heap} {tk : Nat}
    (J : Nat → List Value → List (Addr × Obj) → Prop) (W : Walks prog w A I fp wr n P St) (hI : ∀ i h, St i h → ∃ o, h.get? I = some o) (hfp : ∀ b ∈ fp, b = I ∨ ∃ o, (b, o) ∈ news) (hwr : ∀ b ∈ wr, b = I)
    (hx : (compEnvC scope' cl C env).kindOf x = some .local) (hp : ((compEnvC scope' cl C env).scope.kind == .class || ((compEnvC scope' cl C env).scope.kind == .module && (compEnvC scope' cl C env).locals != (compEnvC scope' cl C env).globals)) = false)
    (hDC : D ≠ C) (hDI : D ≠ I) (hCI : C ≠ I) (nI : ∀ q ∈ news, q.1 ≠ I ∧ q.1 ≠ C ∧ q.1 ≠ D) (fI : I ≠ L ∧ h₀.get? I = none) (fC : C ≠ L ∧ h₀.get? C = none) (fD : D ≠ L ∧ h₀.get? D = none)
    (F : Fr h₀ L h m) (N : News h₀ L h news) (hst : St 0 h) (hacc : h.PlainList D #[]) (hn : h.Ns C mC) (hsz : n ≤ sizeLine) (j0 : J 0 [] news)
    (elem : ElemOk prog w A env scope' cl x elt h₀ L m s news J P n)
    (hR : ∀ h' tk m' zs n₁, h'.Ns C m' → h'.PlainList D zs.toArray → Fr h₀ L h' m → News h₀ L h' n₁ → (∀ q ∈ n₁, q.1 ≠ I ∧ q.1 ≠ C ∧ q.1 ≠ D) → (∀ q ∈ news, q ∈ n₁) → J n zs n₁ → zs.length = n → R (.ok .next) { s with heap := h', toks := tk }) :
    codeAny (model prog w) A (.compLoop (.ListComp elt [⟨.Name x px, iter, [], 0⟩] scope pos) 0 (.ref I) (.ref D) (compEnvC scope' cl C env)) R { s with heap := h, toks := tk } := by
  refine comp_gen (news := news) (nJ := news) (ex := []) (zs0 := []) (b := 0) (Pm := fun _ => True) (P2 := P) (fun I' t n s h => codeAny_compLoop_list I' t n h) J W hI hfp hwr (fun _ _ h => h) hx hp hDC hDI hCI nI fI fC fD F N hst hacc hn trivial (fun _ _ h => h) rfl (by rw [Nat.zero_add]; exact hsz) j0 (fun _ h => h) (fun _ _ _ h => nomatch h) ?_ ?_
  · intro j v zs n₁ n₂ h tk m₃ E' hj hP hJ hz sub sub2 F N hn _ hm hC
    rw [Nat.zero_add] at hJ hz ⊢
    exact elem C j v zs n₁ n₂ h tk m₃ E' hj hP hJ hz sub sub2 F N hn hm hC
  · intro h' tk m' zs n₁ hn hpl F N nn _ sub hJ hz
    rw [Nat.zero_add] at hJ hz
    exact hR h' tk m' zs n₁ hn hpl F N nn sub hJ hz
end
end Mine
namespace Mine
section
variable {prog : Program} {w : World} {A : Around} {E : Value → Shared → Prop} {s : Shared} {h₀ : Heap} {L : Addr} {m : Str → Option Value} {news : List (Addr × Obj)} {env : Env}
/-- a source of a comprehension, told by its iterator -/
structure SrcOk (prog : Program) (w : World) (A : Around) (h₀ : Heap) (L : Addr) (m : Str → Option Value) (news : List (Addr × Obj)) (h : Heap) (I : Addr) (fp wr : List Addr) (n : Nat) (P : Nat → Value → Prop) (St : Nat → Heap → Prop) : Prop where
  W : Walks prog w A I fp wr n P St
  hI : ∀ i h, St i h → ∃ o, h.get? I = some o
  hfp : ∀ b ∈ fp, b = I ∨ ∃ o, (b, o) ∈ news
  hwr : ∀ b ∈ wr, b = I
  hsz : n ≤ sizeLine
  hst : St 0 h
  lt : I < h.objs.size
  fI : I ≠ L ∧ h₀.get? I = none
  F : Fr h₀ L h m
  N : News h₀ L h news
  nI : ∀ q ∈ news, q.1 ≠ I
theorem comp_block_own {elt iter : Expr} {x : Str} {px : Pos} {scope : Scope} {cl : List (Str × Addr)} {pos : Pos} {h : Heap} {tk : Nat} {I : Addr} {fp wr : List Addr} {n : Nat} {P : Nat → Value → Prop} {St : Nat → Heap → Prop} {RR : Value → Addr → Result → Shared → Prop}
    (J : Nat → List Value → List (Addr × Obj) → Prop) (O : SrcOk prog w A h₀ L m news h I fp wr n P St)
    (hcell : ∀ y ∈ scope.names, y.2 ≠ .cell) (hkind : scope.kind = .function) (hx : scope.names.lookup x = some .local) (j0 : J 0 [] news)
    (elem : ElemOk prog w A env scope cl x elt h₀ L m s news J P n)
    (hRR : ∀ D C h' tk m' zs n₁ k, D ≠ C → D ≠ L → C ≠ L → h₀.get? D = none → h₀.get? C = none → h'.Ns C m' → h'.get? D = some (listOf zs.toArray k) → Fr h₀ L h' m → News h₀ L h' n₁ → (∀ q ∈ n₁, q.1 ≠ C ∧ q.1 ≠ D) → (∀ q ∈ news, q ∈ n₁) → J n zs n₁ → zs.length = n → RR (.ref D) C (.ok .next) { s with heap := h', toks := tk }) :
    wpAny (model prog w) A (newList []) (fun acc s₃ => wpAny (model prog w) A (newFunctionEnv scope env.globals cl [] env.qual none .none (some env)) (fun cenv s₄ =>
      codeAny (model prog w) A (.compStart (.ListComp elt [⟨.Name x px, iter, [], 0⟩] scope pos) 0 (.ref I) acc { cenv with scope := relabel scope env }) (RR acc cenv.locals) s₄) E s₃) E { s with heap := h, toks := tk } := by
  obtain ⟨W, hI, hfp, hwr, hsz, hst, lt, fI, F, N, nI⟩ := O
  refine wpAny_newObj_type (wpAny_newFunctionEnv hcell (by intro y hy; simp at hy) (fun h₁ hns₁ hsb₁ => ?_) hkind)
  dsimp only at hns₁ hsb₁ ⊢
  generalize hH2 : h.push { cls := .type "list", dict := none, data := .seq ([] : List Value).toArray } = H2 at hns₁ hsb₁ ⊢
  have hC : H2.objs.size = h.objs.size + 1 := by rw [← hH2, Heap.size_push]
  have hDC : h.objs.size ≠ H2.objs.size := by rw [hC]; exact Nat.ne_of_lt (Nat.lt_succ_self _)
  have below : ∀ b, b < h.objs.size → b ≠ H2.objs.size ∧ b ≠ h.objs.size := fun b hb => ⟨by rw [hC]; exact Nat.ne_of_lt (Nat.lt_succ_of_lt hb), Nat.ne_of_lt hb⟩
  have old : ∀ b o, h.get? b = some o → h₁.get? b = some o := fun b o e => hsb₁.extBut b o (below b (Heap.lt_size e)).1 (Heap.get?_push_of_some _ (hH2 ▸ Heap.get?_push_of_some _ e))
  have hacc : h₁.PlainList h.objs.size #[] := ⟨_, hsb₁.extBut _ _ hDC (Heap.get?_push_of_some _ (hH2 ▸ Heap.get?_push_size _ rfl))⟩
  have hst₁ : St 0 h₁ := W.frame _ _ _ hst fun b _ o e => old b o e
  have hL := F.ns.lt
  have ge0 : ∀ b, h.objs.size ≤ b → h₀.get? b = none := fun b hb => by
    cases e : h₀.get? b with
    | none => rfl
    | some o => exact absurd (Heap.lt_size (F.keep b o e)) (Nat.not_lt.mpr hb)
  have F₁ : Fr h₀ L h₁ m := ⟨F.ns.at' fun o e => old _ o e, fun b o e => old b o (F.keep b o e), F.above⟩
  have N₁ : News h₀ L h₁ news := fun q hq => ⟨old _ _ (N q hq).1, (N q hq).2⟩
  have fD : h.objs.size ≠ L ∧ h₀.get? h.objs.size = none := ⟨Nat.ne_of_gt hL, ge0 _ (Nat.le_refl _)⟩
  have fC : H2.objs.size ≠ L ∧ h₀.get? H2.objs.size = none := ⟨by rw [hC]; exact Nat.ne_of_gt (Nat.lt_succ_of_lt hL), ge0 _ (by rw [hC]; exact Nat.le_succ _)⟩
  have loop : ∀ s₃ : Shared, s₃ = { s with heap := h₁, toks := tk + ([] : List (Str × Value)).length } →
      codeAny (model prog w) A (.compLoop (.ListComp elt [⟨.Name x px, iter, [], 0⟩] scope pos) 0 (.ref I) (.ref h.objs.size) (compEnvC scope cl H2.objs.size env)) (RR (.ref h.objs.size) H2.objs.size) s₃ := by
    rintro s₃ rfl
    refine comp_loop_own J W hI hfp hwr (lookup_relabel_local hx) (by simp [compEnvC, relabel, hkind]) hDC (Nat.ne_of_gt lt) (by rw [hC]; exact Nat.ne_of_gt (Nat.lt_succ_of_lt lt)) (fun q hq => ⟨nI q hq, (below _ (Heap.lt_size (N q hq).1)).1, (below _ (Heap.lt_size (N q hq).1)).2⟩) fI fC fD F₁ N₁ hst₁ hacc hns₁ hsz j0 elem ?_
    intro h' tk m' zs n₁ hn ⟨k, hpl⟩ F' N' nn sub hJ hz
    exact hRR _ _ h' tk m' zs n₁ k hDC fD.1 fC.1 fD.2 fC.2 hn hpl F' N' (fun q hq => (nn q hq).2) sub hJ hz
  exact codeAny_compStart_list (loop _ rfl) (W.self 0 _ _ _ hst₁ (loop _ rfl))
theorem news_same {C D : Addr} {k : Nat} {h h' : Heap} {zs : Array Value} {n₁ : List (Addr × Obj)} (N : News h₀ L h n₁) (hD : h.get? D = some (listOf zs k)) (fD : D ≠ L ∧ h₀.get? D = none) (hDC : D ≠ C) (nn : ∀ q ∈ n₁, q.1 ≠ C ∧ q.1 ≠ D) (hs : Heap.SameBut C h h') : News h₀ L h' ((D, listOf zs k) :: n₁) := fun q hq => by
  rcases List.mem_cons.mp hq with rfl | hq
  · exact ⟨hs.extBut _ _ hDC hD, fD⟩
  · exact ⟨hs.extBut _ _ (nn q hq).1 (N q hq).1, (N q hq).2⟩
theorem fr_same {C : Addr} {h h' : Heap} (F : Fr h₀ L h m) (hCL : C ≠ L) (h0 : h₀.get? C = none) (hs : Heap.SameBut C h h') : Fr h₀ L h' m := fr_but' F (fun b o hb e => hs.extBut b o hb e) (Ne.symm hCL) h0
theorem ListComp_own {elt iter : Expr} {x : Str} {px : Pos} {scope : Scope} {cl : List (Str × Addr)} {pos : Pos} {Q : Value → Shared → Prop} (J : Nat → List Value → List (Addr × Obj) → Prop) (_F : Fr h₀ L s.heap m)
    (hclos : closureFor scope env = pure cl) (hcell : ∀ y ∈ scope.names, y.2 ≠ .cell) (hkind : scope.kind = .function)
    (hnames : ∀ y ∈ scope.names, y.2 = .local → scope.names.lookup y.1 = some .local) (hx : scope.names.lookup x = some .local)
    (h : wpAny (model prog w) A (eval iter env) (fun xv s₁ => wpAny (model prog w) A (pyIter xv) (fun it s₂ => ∃ I fp wr n P St h tk news', s₂ = { s with heap := h, toks := tk } ∧ it = .ref I ∧ SrcOk prog w A h₀ L m news' h I fp wr n P St ∧ J 0 [] news' ∧ ElemOk prog w A env scope cl x elt h₀ L m s news' J P n ∧
      (∀ D zs k n₁ h' tk, Fr h₀ L h' m → News h₀ L h' ((D, listOf zs.toArray k) :: n₁) → (∀ q ∈ n₁, q.1 ≠ D) → (∀ q ∈ news', q ∈ n₁) → J n zs n₁ → zs.length = n → Q (.ref D) { s with heap := h', toks := tk })) E s₁) E s)
    (hs : ∀ x, foldedSetIterable iter env x = pure x) :
    wpAny (model prog w) A (eval (.ListComp elt [⟨.Name x px, iter, [], 0⟩] scope pos) env) Q E s := by
  rw [eval_ListComp]
  refine wpAny_comprehension_free (use := none) rfl hs hclos hkind hnames (wpAny_mono h (fun xv s₁ h₁ => wpAny_mono h₁ (fun it s₂ h₂ => ?_) fun _ _ e => e) fun _ _ e => e)
  obtain ⟨I, fp, wr, n, P, St, h, tk, news', rfl, rfl, O, j0, elem, done⟩ := h₂
  refine comp_block_own (RR := fun acc C => compPost (model prog w) A E none Q acc C) J O hcell hkind hx j0 elem ?_
  intro D C h' tk m' zs n₁ k hDC hDL hCL hD0 hC0 hn hD F' N' nn sub hJ hz
  exact ⟨m', hn, fun h'' hs'' => done D zs k n₁ h'' tk (fr_same F' hCL hC0 hs'') (news_same N' hD ⟨hDL, hD0⟩ hDC nn hs'') (fun q hq => (nn q hq).2) sub hJ hz⟩
theorem Assign_own {elt iter : Expr} {x y : Str} {px py : Pos} {scope : Scope} {cl : List (Str × Addr)} {pos spos : Pos} {Q : Flow → Shared → Prop} (J : Nat → List Value → List (Addr × Obj) → Prop) (_F : Fr h₀ L s.heap m) (hL : env.locals = L)
    (hsw : swapsWith (.ListComp elt [⟨.Name x px, iter, [], 0⟩] scope pos) (some (.Name y py)) spos.line env = pure true)
    (hclos : closureFor scope env = pure cl) (hcell : ∀ z ∈ scope.names, z.2 ≠ .cell) (hkind : scope.kind = .function)
    (hnames : ∀ z ∈ scope.names, z.2 = .local → scope.names.lookup z.1 = some .local) (hx : scope.names.lookup x = some .local)
    (hy : env.kindOf y = some .local) (hp : (env.scope.kind == .class || (env.scope.kind == .module && env.locals != env.globals)) = false)
    (h : wpAny (model prog w) A (eval iter env) (fun xv s₁ => wpAny (model prog w) A (pyIter xv) (fun it s₂ => ∃ I fp wr n P St h tk news', s₂ = { s with heap := h, toks := tk } ∧ it = .ref I ∧ SrcOk prog w A h₀ L m news' h I fp wr n P St ∧ J 0 [] news' ∧ ElemOk prog w A env scope cl x elt h₀ L m s news' J P n ∧
      (∀ D zs k n₁ h' tk, Fr h₀ L h' (fun z => if z = y then some (.ref D) else m z) → News h₀ L h' ((D, listOf zs.toArray k) :: n₁) → (∀ q ∈ n₁, q.1 ≠ D) → (∀ q ∈ news', q ∈ n₁) → J n zs n₁ → zs.length = n → Q .next { s with heap := h', toks := tk })) E s₁) E s)
    (hs : ∀ x, foldedSetIterable iter env x = pure x) :
    wpAny (model prog w) A (exec (.Assign [.Name y py] (.ListComp elt [⟨.Name x px, iter, [], 0⟩] scope pos) spos) env) Q E s := by
  subst hL
  rw [exec_Assign_Name_used _ _ _ _ hsw]
  refine wpAny_bind (wpAny_standAt (wpAny_bind ?_))
  show wpAny _ A (do let _ ← comprehension (.ListComp elt [⟨.Name x px, iter, [], 0⟩] scope pos) scope env _ (newList []) false (eval iter env) (some (assign (.Name y py) env))) _ _ s
  refine wpAny_bind (wpAny_mono (wpAny_comprehension_free (use := some (assign (.Name y py) env)) (Q := fun _ s' => Q .next s') rfl hs hclos hkind hnames
    (wpAny_mono h (fun xv s₁ h₁ => wpAny_mono h₁ (fun it s₂ h₂ => ?_) fun _ _ e => e) fun _ _ e => e)) (fun _ s' hq => wpAny_pure (wpAny_pure hq)) fun _ _ e => e)
  obtain ⟨I, fp, wr, n, P, St, h, tk, news', rfl, rfl, O, j0, elem, done⟩ := h₂
  refine comp_block_own (RR := fun acc C => compPost (model prog w) A E (some (assign (.Name y py) env)) (fun _ s' => Q .next s') acc C) J O hcell hkind hx j0 elem ?_
  intro D C h' tk m' zs n₁ k hDC hDL hCL hD0 hC0 hn hD F' N' nn sub hJ hz
  show wpAny _ A (assign (.Name y py) env (.ref D)) _ _ _
  refine wpAny_assign_Name (wpAny_storeName_local hy F'.ns (fun h₂ hn₂ hs₂ => ?_) hp)
  refine ⟨m', hn.sameBut hs₂ hCL, fun h₃ hs₃ => ?_⟩
  have D2 : h₂.get? D = some (listOf zs.toArray k) := hs₂.extBut _ _ hDL hD
  have F2 : Fr h₀ env.locals h₂ (fun z => if z = y then some (.ref D) else m z) := ⟨hn₂, fun b o e => hs₂.extBut b o (fun q => by
    have := F'.above
    rw [← q] at this
    exact absurd (Nat.lt_of_lt_of_le (Heap.lt_size e) this) (Nat.lt_irrefl _)) (F'.keep b o e), F'.above⟩
  have N2 : News h₀ env.locals h₂ n₁ := fun q hq => ⟨hs₂.extBut _ _ (N' q hq).2.1 (N' q hq).1, (N' q hq).2⟩
  exact done D zs k n₁ h₃ _ (fr_same F2 hCL hC0 hs₃) (news_same N2 D2 ⟨hDL, hD0⟩ hDC nn hs₃) (fun q hq => (nn q hq).2) sub hJ hz
/-- the source a list of the ledger -/
theorem src_list {l : Addr} {its : Array Value} {n : Nat} {h : Heap} {tk : Nat} {Q : Value → Shared → Prop} (hh : A.handled = none) (F : Fr h₀ L h m) (N : News h₀ L h news) (hl : (l, listOf its n) ∈ news) (hsz : its.size ≤ sizeLine)
    (hQ : ∀ I fp wr P St h', SrcOk prog w A h₀ L m news h' I fp wr its.size P St → (∀ i v, P i v → its[i]? = some v) → Q (.ref I) { s with heap := h', toks := tk }) :
    wpAny (model prog w) A (pyIter (.ref l)) Q E { s with heap := h, toks := tk } := by
  have z := N _ hl
  have hL : h.IsList l its := ⟨_, z.1, rfl, n, rfl⟩
  have hlt := Heap.lt_size z.1
  refine wpAny_pyIter_list hL ?_
  have up : ∀ b o, h.get? b = some o → (h.push { cls := .type "list_iterator", data := .fields #[.ref l, .int 0 0] }).get? b = some o := fun b o e => Heap.get?_push_of_some _ e
  refine hQ h.objs.size _ _ _ _ _ ⟨Walks.list hh h.objs.size l (Nat.ne_of_lt hlt) its, ?_, ?_, ?_, hsz, ⟨⟨_, Heap.get?_push_size _ rfl, rfl, rfl⟩, hL.push _⟩, ?_, ?_, F.push _, fun q hq => ⟨up _ _ (N q hq).1, (N q hq).2⟩, fun q hq => Nat.ne_of_lt (Heap.lt_size (N q hq).1)⟩ fun _ _ h => h
  · rintro i h ⟨⟨o, e, _⟩, _⟩; exact ⟨o, e⟩
  · intro b hb
    rcases List.mem_cons.mp hb with rfl | hb
    · exact .inl rfl
    · exact .inr ⟨_, List.mem_singleton.mp hb ▸ hl⟩
  · intro b hb; exact List.mem_singleton.mp hb
  · rw [Heap.size_push]; exact Nat.lt_succ_self _
  · exact ⟨Nat.ne_of_gt F.ns.lt, next_is_new F⟩
end
end Mine
namespace Mine
/-- one turn of the outer of two generators -/
theorem compTurn_two (elt t1 t2 iter iter2 : Expr) (scope : Scope) (pos : Pos) (it acc : Value) (env : Env) :
    compTurn (.ListComp elt [⟨t1, iter, [], 0⟩, ⟨t2, iter2, [], 0⟩] scope pos) 0 it acc env = (do
      standAt iter.pos
      match ← pyNext it with
      | none => pure (.done .next)
      | some v =>
        letOwnedTupleGo t1 it v
        assign t1 env v
        let x ← eval iter2 env
        standAt iter2.pos
        let x ← foldedSetIterable iter2 env x
        let _ ← runOwn (.compStart (.ListComp elt [⟨t1, iter, [], 0⟩, ⟨t2, iter2, [], 0⟩] scope pos) 1 (← holding [x] (pyIter x)) acc env) env
        again (.compLoop (.ListComp elt [⟨t1, iter, [], 0⟩, ⟨t2, iter2, [], 0⟩] scope pos) 0 it acc env)) := by rfl
/-- one turn of the inner of two generators -/
theorem compTurn_two1 (elt t1 t2 iter iter2 : Expr) (scope : Scope) (pos : Pos) (it acc : Value) (env : Env) :
    compTurn (.ListComp elt [⟨t1, iter, [], 0⟩, ⟨t2, iter2, [], 0⟩] scope pos) 1 it acc env = (do
      standAt iter2.pos
      match ← pyNext it with
      | none => pure (.done .next)
      | some v =>
        letOwnedTupleGo t2 it v
        assign t2 env v
        (do let _ ← call (.builtin "list.append") [acc, ← eval elt env])
        again (.compLoop (.ListComp elt [⟨t1, iter, [], 0⟩, ⟨t2, iter2, [], 0⟩] scope pos) 1 it acc env)) := by rfl
section
variable {prog : Program} {w : World} {A : Around} {E : Value → Shared → Prop} {R : Result → Shared → Prop} {s : Shared} {h₀ : Heap} {L : Addr} {m : Str → Option Value} {news : List (Addr × Obj)} {env : Env}
theorem two_start {elt t1 t2 iter iter2 : Expr} {scope : Scope} {pos : Pos} {it acc : Value}
    (h0 : codeAny (model prog w) A (.compLoop (.ListComp elt [⟨t1, iter, [], 0⟩, ⟨t2, iter2, [], 0⟩] scope pos) 1 it acc env) R s)
    (h : wpAny (model prog w) A (pyIter it) (fun it' s' => codeAny (model prog w) A (.compLoop (.ListComp elt [⟨t1, iter, [], 0⟩, ⟨t2, iter2, [], 0⟩] scope pos) 1 it' acc env) R s')
      (notedBy (model prog w) A env fun x s' => R (.error x) s') s) :
    codeAny (model prog w) A (.compStart (.ListComp elt [⟨t1, iter, [], 0⟩, ⟨t2, iter2, [], 0⟩] scope pos) 1 it acc env) R s := by
  refine codeAny_of_tree ?_
  show wpAny _ _ ((compStart (.ListComp elt [⟨t1, iter, [], 0⟩, ⟨t2, iter2, [], 0⟩] scope pos) 1 it acc env).onRaise (fun x => do noteFrame x env; standAt theWindowsPlace)) _ _ s
  refine wpAny_notedAt ?_
  unfold compStart
  show wpAny _ _ (ask >>= _) _ _ s
  refine wpAny_bind (wpAny_askSetting (wpAny_ite ?_))
  split
  · first
      | exact wpAny_bind (wpAny_pure (wpAny_pure (And.intro rfl h0)))
      | exact wpAny_pure (And.intro rfl h0)
  · first
      | exact wpAny_bind (wpAny_rule (wpAny_bind (wpAny_standAt (wpAny_bind (wpAny_mono h (fun it' s' h' => wpAny_pure (And.intro rfl h')) fun _ _ x => x)))))
      | (refine wpAny_bind (wpAny_rule ?_); show wpAny _ _ (standAt iter2.pos >>= _) _ _ s; exact wpAny_bind (wpAny_standAt (wpAny_bind (wpAny_mono h (fun it' s' h' => wpAny_pure (And.intro rfl h')) fun _ _ x => x))))
theorem two_inner {elt t1 t2 iter iter2 : Expr} {scope : Scope} {pos : Pos} {it acc : Value} (I : Nat → Shared → Prop)
    (turn : ∀ n s, I n s → wpAny (model prog w) A (pyNext it) (fun r s₁ => match r with
      | none => R (.ok .next) s₁
      | some v => wpAny (model prog w) A (assign t2 env v) (fun _ s₂ => wpAny (model prog w) A (eval elt env) (fun x s₄ =>
              wpAny (model prog w) A (call (.builtin "list.append") [acc, x]) (fun _ s₅ => ∃ m, m < n ∧ I m s₅) (notedBy (model prog w) A env fun e s' => R (.error e) s') s₄) (notedBy (model prog w) A env fun e s' => R (.error e) s') s₂) (notedBy (model prog w) A env fun e s' => R (.error e) s') s₁) (notedBy (model prog w) A env fun e s' => R (.error e) s') s)
    (n : Nat) (h : I n s) (ht : ∀ v, letOwnedTupleGo t2 it v = pure () := by intro _; rfl) :
    codeAny (model prog w) A (.compLoop (.ListComp elt [⟨t1, iter, [], 0⟩, ⟨t2, iter2, [], 0⟩] scope pos) 1 it acc env) R s := by
  refine codeAny_loop rfl I (fun n s hI => ?_) n h
  show wpAny _ A ((compTurn (.ListComp elt [⟨t1, iter, [], 0⟩, ⟨t2, iter2, [], 0⟩] scope pos) 1 it acc env).onRaise (fun x => do noteFrame x env; theTreesLotGoes x)) _ _ s
  refine wpAny_noted ?_
  rw [compTurn_two1]
  refine wpAny_bind (wpAny_standAt (wpAny_bind (wpAny_mono (turn n s hI) (fun r s₁ h₁ => ?_) fun _ _ h' => h')))
  cases r with
  | none => exact wpAny_pure h₁
  | some v =>
    refine wpAny_bind (wpAny_of_eq (ht v) ?_)
    refine wpAny_bind (wpAny_mono h₁ (fun _ s₂ h₂ => ?_) fun _ _ h' => h')
    exact wpAny_bind (wpAny_bind (wpAny_mono h₂ (fun x s₄ h₄ => wpAny_bind (wpAny_mono h₄ (fun _ s₅ h₅ => wpAny_pure (wpAny_pure ⟨rfl, h₅⟩)) fun _ _ h' => h')) fun _ _ h' => h'))
theorem two_outer {elt t1 t2 iter iter2 : Expr} {scope : Scope} {pos : Pos} {it acc : Value} (I : Nat → Shared → Prop)
    (turn : ∀ n s, I n s → wpAny (model prog w) A (pyNext it) (fun r s₁ => match r with
      | none => R (.ok .next) s₁
      | some v => wpAny (model prog w) A (assign t1 env v) (fun _ s₂ => wpAny (model prog w) A (eval iter2 env) (fun x s₃ => wpAny (model prog w) A (pyIter x) (fun it2 s₄ =>
           codeAny (model prog w) A (.compStart (.ListComp elt [⟨t1, iter, [], 0⟩, ⟨t2, iter2, [], 0⟩] scope pos) 1 it2 acc env) (fun r s₅ => match r with | .ok _ => ∃ m, m < n ∧ I m s₅ | .error e => cameBackBy (model prog w) A env (notedBy (model prog w) A env fun e s' => R (.error e) s') e s₅) s₄) (notedBy (model prog w) A env fun e s' => R (.error e) s') s₃) (notedBy (model prog w) A env fun e s' => R (.error e) s') s₂) (notedBy (model prog w) A env fun e s' => R (.error e) s') s₁) (notedBy (model prog w) A env fun e s' => R (.error e) s') s)
    (n : Nat) (h : I n s) (ht : ∀ v, letOwnedTupleGo t1 it v = pure () := by intro _; rfl) (hs : ∀ x, foldedSetIterable iter2 env x = pure x) :
    codeAny (model prog w) A (.compLoop (.ListComp elt [⟨t1, iter, [], 0⟩, ⟨t2, iter2, [], 0⟩] scope pos) 0 it acc env) R s := by
  refine codeAny_loop rfl I (fun n s hI => ?_) n h
  show wpAny _ A ((compTurn (.ListComp elt [⟨t1, iter, [], 0⟩, ⟨t2, iter2, [], 0⟩] scope pos) 0 it acc env).onRaise (fun x => do noteFrame x env; theTreesLotGoes x)) _ _ s
  refine wpAny_noted ?_
  rw [compTurn_two]
  refine wpAny_bind (wpAny_standAt (wpAny_bind (wpAny_mono (turn n s hI) (fun r s₁ h₁ => ?_) fun _ _ h' => h')))
  cases r with
  | none => exact wpAny_pure h₁
  | some v =>
    refine wpAny_bind (wpAny_of_eq (ht v) ?_)
    refine wpAny_bind (wpAny_mono h₁ (fun _ s₂ h₂ => ?_) fun _ _ h' => h')
    refine wpAny_bind (wpAny_mono h₂ (fun x s₃ h₃ => wpAny_bind (wpAny_standAt (wpAny_bind (wpAny_of_eq (hs x) ?_)))) fun _ _ h' => h')
    refine wpAny_bind (wpAny_holding (wpAny_mono h₃ (fun it2 s₄ h₄ => ?_) fun _ _ h' => h'))
    refine wpAny_bind (wpAny_runOwn (codeAny_mono h₄ fun r s₅ h₅ => ?_))
    cases r with
    | ok f => exact wpAny_pure ⟨rfl, h₅⟩
    | error e => exact h₅
/-- what an element of a comprehension with two generators must do, in terms of the ledger -/
def Elem2Ok (prog : Program) (w : World) (A : Around) (env : Env) (scope : Scope) (cl : List (Str × Addr)) (x y : Str) (elt : Expr) (h₀ : Heap) (L : Addr) (m : Str → Option Value) (s : Shared) (news : List (Addr × Obj)) (J : Nat → List Value → List (Addr × Obj) → Prop) (P P2 : Nat → Value → Prop) (n k : Nat) : Prop :=
  ∀ C i j u v zs n₁ n₂ h tk m₃ E', i < n → j < k → P i u → P2 j v → J (i * k + j) zs n₁ → zs.length = i * k + j → (∀ q ∈ news, q ∈ n₁) → (∀ q ∈ n₁, q ∈ n₂) → Fr h₀ L h m → News h₀ L h n₂ → h.Ns C m₃ → m₃ x = some u → m₃ y = some v → (∃ oC, (C, oC) ∈ n₂) →
   wpAny (model prog w) A (eval elt (compEnvC scope cl C env)) (fun z s₄ => ∃ h' tk' nw, s₄ = { s with heap := h', toks := tk' } ∧ Fr h₀ L h' m ∧ News h₀ L h' (nw ++ n₂) ∧ (∀ q ∈ nw, ∀ e ∈ n₂, e.1 ≠ q.1) ∧ J (i * k + j + 1) (zs ++ [z]) (nw ++ n₁)) E' { s with heap := h, toks := tk }
/-- what the inner source must do: a new thing with an iterator of its own -/
def Src2Ok (prog : Program) (w : World) (A : Around) (env : Env) (scope : Scope) (cl : List (Str × Addr)) (iter2 : Expr) (h₀ : Heap) (L : Addr) (m : Str → Option Value) (s : Shared) (P2 : Nat → Value → Prop) (k : Nat) : Prop :=
  ∀ C n₂ h tk m₃ E', Fr h₀ L h m → News h₀ L h n₂ → h.Ns C m₃ → (∃ oC, (C, oC) ∈ n₂) →
   wpAny (model prog w) A (eval iter2 (compEnvC scope cl C env)) (fun xv s₁ => wpAny (model prog w) A (pyIter xv) (fun it s₂ => ∃ I fp wr P St h' tk' nw, s₂ = { s with heap := h', toks := tk' } ∧ it = .ref I ∧ SrcOk prog w A h₀ L m (nw ++ n₂) h' I fp wr k P St ∧ (∀ b ∈ fp, b = I ∨ ∃ o, (b, o) ∈ nw) ∧ (∀ q ∈ nw, ∀ e ∈ n₂, e.1 ≠ q.1) ∧ ∀ j v, P j v → P2 j v) E' s₁) E' { s with heap := h, toks := tk }
theorem comp_inner {elt iter iter2 : Expr} {x y : Str} {px py : Pos} {scope scope' : Scope} {cl : List (Str × Addr)} {pos : Pos} {I C D : Addr} {fp wr : List Addr} {k : Nat} {P P2 : Nat → Value → Prop} {St : Nat → Heap → Prop} {mC : Str → Option Value} {h : Heap} {tk b : Nat} {u : Value} {zs0 : List Value} {nJ ex : List (Addr × Obj)}
    (J : Nat → List Value → List (Addr × Obj) → Prop) (W : Walks prog w A I fp wr k P St) (hI : ∀ i h, St i h → ∃ o, h.get? I = some o) (hfp : ∀ b ∈ fp, b = I ∨ ∃ o, (b, o) ∈ ex) (hwr : ∀ b ∈ wr, b = I) (hPP : ∀ j v, P j v → P2 j v)
    (hy : (compEnvC scope' cl C env).kindOf y = some .local) (hp : ((compEnvC scope' cl C env).scope.kind == .class || ((compEnvC scope' cl C env).scope.kind == .module && (compEnvC scope' cl C env).locals != (compEnvC scope' cl C env).globals)) = false)
    (hDC : D ≠ C) (hDI : D ≠ I) (hCI : C ≠ I) (nI : ∀ q ∈ ex ++ nJ, q.1 ≠ I ∧ q.1 ≠ C ∧ q.1 ≠ D) (fI : I ≠ L ∧ h₀.get? I = none) (fC : C ≠ L ∧ h₀.get? C = none) (fD : D ≠ L ∧ h₀.get? D = none)
    (F : Fr h₀ L h m) (N : News h₀ L h (ex ++ nJ)) (hst : St 0 h) (hacc : h.PlainList D zs0.toArray) (hn : h.Ns C mC) (hx : mC x = some u) (hxy : x ≠ y) (hz0 : zs0.length = b) (hsz : b + k ≤ sizeLine) (j0 : J b zs0 nJ) (sub0 : ∀ q ∈ news, q ∈ nJ) (ap0 : ∀ q ∈ nJ, ∀ e ∈ ex, e.1 ≠ q.1)
    (elem : ∀ j v zs n₁ n₂ h tk m₃ E', j < k → P2 j v → J (b + j) zs n₁ → zs.length = b + j → (∀ q ∈ news, q ∈ n₁) → (∀ q ∈ n₁, q ∈ n₂) → Fr h₀ L h m → News h₀ L h n₂ → h.Ns C m₃ → m₃ x = some u → m₃ y = some v → (∃ oC, (C, oC) ∈ n₂) →
      wpAny (model prog w) A (eval elt (compEnvC scope' cl C env)) (fun z s₄ => ∃ h' tk' nw, s₄ = { s with heap := h', toks := tk' } ∧ Fr h₀ L h' m ∧ News h₀ L h' (nw ++ n₂) ∧ (∀ q ∈ nw, ∀ e ∈ n₂, e.1 ≠ q.1) ∧ J (b + j + 1) (zs ++ [z]) (nw ++ n₁)) E' { s with heap := h, toks := tk })
    (hR : ∀ h' tk m' zs n₁, h'.Ns C m' → h'.PlainList D zs.toArray → Fr h₀ L h' m → News h₀ L h' (ex ++ n₁) → (∀ q ∈ ex ++ n₁, q.1 ≠ I ∧ q.1 ≠ C ∧ q.1 ≠ D) → (∀ q ∈ n₁, ∀ e ∈ ex, e.1 ≠ q.1) → (∀ q ∈ news, q ∈ n₁) → J (b + k) zs n₁ → zs.length = b + k → R (.ok .next) { s with heap := h', toks := tk }) :
    codeAny (model prog w) A (.compLoop (.ListComp elt [⟨.Name x px, iter, [], 0⟩, ⟨.Name y py, iter2, [], 0⟩] scope pos) 1 (.ref I) (.ref D) (compEnvC scope' cl C env)) R { s with heap := h, toks := tk } := by
  exact comp_gen (news := news) (nJ := nJ) (ex := ex) (Pm := fun m => m x = some u) (fun I' t n s h => two_inner I' t n h) J W hI (fun b hb => (hfp b hb).imp id fun ⟨o, ho⟩ => ⟨o, List.mem_append_left _ ho⟩) hwr hPP hy hp hDC hDI hCI nI fI fC fD F N hst hacc hn hx (fun m v h => by show (if x = y then _ else _) = _; rw [if_neg hxy]; exact h) hz0 hsz j0 sub0 ap0 elem hR
theorem comp_loop2 {elt iter iter2 : Expr} {x y : Str} {px py : Pos} {scope scope' : Scope} {cl : List (Str × Addr)} {pos : Pos} {I C D : Addr} {fp wr : List Addr} {n k : Nat} {P P2 : Nat → Value → Prop} {St : Nat → Heap → Prop} {mC : Str → Option Value} {h : Heap} {tk : Nat}
    (J : Nat → List Value → List (Addr × Obj) → Prop) (W : Walks prog w A I fp wr n P St) (hI : ∀ i h, St i h → ∃ o, h.get? I = some o) (hfp : ∀ b ∈ fp, b = I ∨ ∃ o, (b, o) ∈ news) (hwr : ∀ b ∈ wr, b = I)
    (hx : (compEnvC scope' cl C env).kindOf x = some .local) (hy : (compEnvC scope' cl C env).kindOf y = some .local) (hxy : x ≠ y) (hp : ((compEnvC scope' cl C env).scope.kind == .class || ((compEnvC scope' cl C env).scope.kind == .module && (compEnvC scope' cl C env).locals != (compEnvC scope' cl C env).globals)) = false)
    (hDC : D ≠ C) (hDI : D ≠ I) (hCI : C ≠ I) (nI : ∀ q ∈ news, q.1 ≠ I ∧ q.1 ≠ C ∧ q.1 ≠ D) (fI : I ≠ L ∧ h₀.get? I = none) (fC : C ≠ L ∧ h₀.get? C = none) (fD : D ≠ L ∧ h₀.get? D = none)
    (F : Fr h₀ L h m) (N : News h₀ L h news) (hst : St 0 h) (hacc : h.PlainList D #[]) (hn : h.Ns C mC) (hsz : n * k ≤ sizeLine) (j0 : J 0 [] news)
    (hs2 : ∀ x, foldedSetIterable iter2 (compEnvC scope' cl C env) x = pure x) (src2 : Src2Ok prog w A env scope' cl iter2 h₀ L m s P2 k)
    (elem : Elem2Ok prog w A env scope' cl x y elt h₀ L m s news J P P2 n k)
    (hR : ∀ h' tk m' zs n₁, h'.Ns C m' → h'.PlainList D zs.toArray → Fr h₀ L h' m → News h₀ L h' n₁ → (∀ q ∈ n₁, q.1 ≠ I ∧ q.1 ≠ C ∧ q.1 ≠ D) → (∀ q ∈ news, q ∈ n₁) → J (n * k) zs n₁ → zs.length = n * k → R (.ok .next) { s with heap := h', toks := tk }) :
    codeAny (model prog w) A (.compLoop (.ListComp elt [⟨.Name x px, iter, [], 0⟩, ⟨.Name y py, iter2, [], 0⟩] scope pos) 0 (.ref I) (.ref D) (compEnvC scope' cl C env)) R { s with heap := h, toks := tk } := by
  refine two_outer (hs := hs2)
    (fun c s' => ∃ h tk mC zs n₁ i, s' = { s with heap := h, toks := tk } ∧ St i h ∧ h.PlainList D zs.toArray ∧ h.Ns C mC ∧ Fr h₀ L h m ∧ News h₀ L h n₁ ∧ (∀ q ∈ n₁, q.1 ≠ I ∧ q.1 ≠ C ∧ q.1 ≠ D) ∧ (∀ q ∈ news, q ∈ n₁) ∧ J (i * k) zs n₁ ∧ zs.length = i * k ∧ i ≤ n ∧ c = n + 1 - i) ?_ (n + 1)
    ⟨h, tk, mC, [], news, 0, rfl, hst, hacc, hn, F, N, nI, fun _ q => q, by rw [Nat.zero_mul]; exact j0, by rw [Nat.zero_mul]; rfl, Nat.zero_le _, rfl⟩
  rintro c s' ⟨h, tk, mC, zs, n₁, i, rfl, hst, hacc, hn, F, N, nn, sub, hJ, hzl, hi, rfl⟩
  have nwr : ∀ b, b ≠ I → b ∉ wr := fun b hb hm => hb (hwr b hm)
  by_cases hlt : i < n
  · refine W.item i _ _ _ hlt hst fun v h₁ tk₁ hPv hst₁ hk₁ => ?_
    have k₁ : ∀ b o, b ≠ I → h.get? b = some o → h₁.get? b = some o := fun b o hb e => hk₁ b o (nwr b hb) e
    refine wpAny_assign_Name (wpAny_storeName_local hx (hn.at' fun o e => k₁ _ o hCI e) (fun h₂ hn₂ hs₂ => ?_) hp)
    have k₂ : ∀ b o, b ≠ C → h₁.get? b = some o → h₂.get? b = some o := fun b o hb e => hs₂.extBut b o hb e
    have hfC : ∀ b ∈ fp, b ≠ C := fun b hb e => by
      rcases hfp b hb with rfl | ⟨o, ho⟩
      · exact hCI e.symm
      · exact (nI _ ho).2.1 e
    have hst₂ : St (i + 1) h₂ := W.frame _ _ _ hst₁ fun b hb o e => k₂ b o (hfC b hb) e
    obtain ⟨oI, eI⟩ := hI _ _ hst₂
    obtain ⟨oC, esC, epC, eC, rC⟩ := id hn₂
    obtain ⟨kD, eD⟩ := hacc.at (h' := h₂) fun o e => k₂ _ o hDC (k₁ _ o hDI e)
    have F₂ : Fr h₀ L h₂ m := fr_but' (fr_but' F k₁ (Ne.symm fI.1) fI.2) k₂ (Ne.symm fC.1) fC.2
    have N₂ : News h₀ L h₂ ((I, oI) :: (C, oC) :: (D, listOf zs.toArray kD) :: n₁) := fun q hq => by
      rcases List.mem_cons.mp hq with rfl | hq
      · exact ⟨eI, fI⟩
      · rcases List.mem_cons.mp hq with rfl | hq
        · exact ⟨eC, fC⟩
        · rcases List.mem_cons.mp hq with rfl | hq
          · exact ⟨eD, fD⟩
          · exact ⟨k₂ _ _ (nn q hq).2.1 (k₁ _ _ (nn q hq).1 (N q hq).1), (N q hq).2⟩
    refine wpAny_mono (src2 C _ h₂ _ _ _ F₂ N₂ hn₂ ⟨oC, .tail _ (.head _)⟩) (fun xv s₃ h₃ => wpAny_mono h₃ (fun it s₄ h₄ => ?_) fun _ _ e => e) fun _ _ e => e
    obtain ⟨I2, fp2, wr2, P', St2, h₃, tk₃, nw, rfl, rfl, O, hfp2, fr2, hPP⟩ := h₄
    have N₃ := O.N
    have k₃ : ∀ q ∈ ((I, oI) :: (C, oC) :: (D, listOf zs.toArray kD) :: n₁), h₃.get? q.1 = some q.2 := fun q hq => (N₃ q (List.mem_append_right _ hq)).1
    have e3I := k₃ _ (.head _)
    have hst₃ : St (i + 1) h₃ := W.frame _ _ _ hst₂ fun b hb o e => by
      rcases hfp b hb with rfl | ⟨o', ho⟩
      · have := k₃ _ (.head _)
        rw [eI] at e; cases e; exact this
      · have e2 := k₃ _ (.tail _ (.tail _ (.tail _ (sub _ ho))))
        have e3 := (N₂ _ (.tail _ (.tail _ (.tail _ (sub _ ho))))).1
        dsimp only at e2 e3
        rw [e3] at e; cases e; exact e2
    have hn₃ : h₃.Ns C _ := ⟨oC, esC, epC, k₃ _ (.tail _ (.head _)), rC⟩
    have nI2 : ∀ q ∈ ((I, oI) :: (C, oC) :: (D, listOf zs.toArray kD) :: n₁), q.1 ≠ I2 := fun q hq => O.nI q (List.mem_append_right _ hq)
    have N₄ : News h₀ L h₃ (((I, oI) :: nw) ++ n₁) := fun q hq => by
      rcases List.mem_append.mp hq with hq | hq
      · rcases List.mem_cons.mp hq with rfl | hq
        · exact N₃ _ (List.mem_append_right _ (.head _))
        · exact N₃ _ (List.mem_append_left _ hq)
      · exact N₃ _ (List.mem_append_right _ (.tail _ (.tail _ (.tail _ hq))))
    have nn₄ : ∀ q ∈ ((I, oI) :: nw) ++ n₁, q.1 ≠ I2 ∧ q.1 ≠ C ∧ q.1 ≠ D := fun q hq => by
      rcases List.mem_append.mp hq with hq | hq
      · rcases List.mem_cons.mp hq with rfl | hq
        · exact ⟨nI2 _ (.head _), Ne.symm hCI, Ne.symm hDI⟩
        · exact ⟨O.nI q (List.mem_append_left _ hq), fun e => fr2 q hq (C, oC) (.tail _ (.head _)) e.symm, fun e => fr2 q hq (D, _) (.tail _ (.tail _ (.head _))) e.symm⟩
      · exact ⟨nI2 _ (.tail _ (.tail _ (.tail _ hq))), (nn q hq).2⟩
    have loop : codeAny (model prog w) A (.compLoop (.ListComp elt [⟨.Name x px, iter, [], 0⟩, ⟨.Name y py, iter2, [], 0⟩] scope pos) 1 (.ref I2) (.ref D) (compEnvC scope' cl C env))
        (fun r s₅ => match r with | .ok _ => ∃ m', m' < n + 1 - i ∧ (∃ h tk mC zs n₁ i, s₅ = { s with heap := h, toks := tk } ∧ St i h ∧ h.PlainList D zs.toArray ∧ h.Ns C mC ∧ Fr h₀ L h m ∧ News h₀ L h n₁ ∧ (∀ q ∈ n₁, q.1 ≠ I ∧ q.1 ≠ C ∧ q.1 ≠ D) ∧ (∀ q ∈ news, q ∈ n₁) ∧ J (i * k) zs n₁ ∧ zs.length = i * k ∧ i ≤ n ∧ m' = n + 1 - i) | .error e => cameBackBy (model prog w) A (compEnvC scope' cl C env) (notedBy (model prog w) A (compEnvC scope' cl C env) fun e s' => R (.error e) s') e s₅)
        { s with heap := h₃, toks := tk₃ } := by
      refine comp_inner (news := news) (nJ := n₁) (ex := (I, oI) :: nw) (zs0 := zs) (b := i * k) (u := v) (P2 := P2) J O.W O.hI (fun b hb => (hfp2 b hb).imp id fun ⟨o, ho⟩ => ⟨o, .tail _ ho⟩) O.hwr hPP hy hp hDC (nI2 _ (.tail _ (.tail _ (.head _)))) (nI2 _ (.tail _ (.head _))) nn₄ O.fI fC fD O.F N₄ O.hst ⟨kD, k₃ _ (.tail _ (.tail _ (.head _)))⟩ hn₃ (by simp) hxy hzl ?_ hJ sub ?_ ?_ ?_
      · refine Nat.le_trans ?_ hsz
        have := Nat.mul_le_mul_right k (show i + 1 ≤ n from hlt)
        rwa [Nat.add_mul, Nat.one_mul] at this
      · intro q hq e he
        rcases List.mem_cons.mp he with rfl | he
        · exact (nn q hq).1.symm
        · exact (fr2 e he q (.tail _ (.tail _ (.tail _ hq)))).symm
      · exact fun j v' zs n₁ n₂ h tk m₃ E' hj hPv' hJ hz sub sub2 F N hn h1 h2 hC => elem C i j v v' zs n₁ n₂ h tk m₃ E' hlt hj hPv hPv' hJ hz sub sub2 F N hn h1 h2 hC
      · intro h₅ tk₅ m' zs' n₅ hn₅ hpl₅ F₅ N₅ nn₅ ap₅ sub₅ hJ₅ hz₅
        refine ⟨n + 1 - (i + 1), cnt_down hlt, h₅, tk₅, m', zs', n₅, i + 1, rfl, ?_, hpl₅, hn₅, F₅, fun q hq => N₅ q (List.mem_append_right _ hq), ?_, sub₅, by rw [Nat.add_mul, Nat.one_mul]; exact hJ₅, by rw [Nat.add_mul, Nat.one_mul]; exact hz₅, hlt, rfl⟩
        · refine W.frame _ _ _ hst₃ fun b hb o e => ?_
          rcases hfp b hb with rfl | ⟨o', ho⟩
          · have := (N₅ _ (List.mem_append_left _ (.head _))).1
            dsimp only at this
            rw [e3I] at e; cases e; exact this
          · have e2 := (N₅ _ (List.mem_append_right _ (sub₅ _ ho))).1
            have e3 := k₃ _ (.tail _ (.tail _ (.tail _ (sub _ ho))))
            dsimp only at e2 e3
            rw [e3] at e; cases e; exact e2
        · intro q hq
          refine ⟨?_, (nn₅ q (List.mem_append_right _ hq)).2⟩
          exact (ap₅ q hq (I, oI) (.head _)).symm
    exact two_start loop (O.W.self 0 _ _ _ O.hst loop)
  · have hin : i = n := by omega
    subst hin
    refine W.done _ _ _ hst fun h₁ tk₁ hk₁ => ?_
    have k₁ : ∀ b o, b ≠ I → h.get? b = some o → h₁.get? b = some o := fun b o hb e => hk₁ b o (nwr b hb) e
    exact hR h₁ tk₁ mC zs n₁ (hn.at' fun o e => k₁ _ o hCI e) (hacc.at fun o e => k₁ _ o hDI e) (fr_but' F k₁ (Ne.symm fI.1) fI.2) (fun q hq => ⟨k₁ _ _ (nn q hq).1 (N q hq).1, (N q hq).2⟩) nn sub hJ hzl
theorem comp_block2 {elt iter iter2 : Expr} {x y : Str} {px py : Pos} {scope : Scope} {cl : List (Str × Addr)} {pos : Pos} {h : Heap} {tk : Nat} {I : Addr} {fp wr : List Addr} {n k : Nat} {P P2 : Nat → Value → Prop} {St : Nat → Heap → Prop} {RR : Value → Addr → Result → Shared → Prop}
    (J : Nat → List Value → List (Addr × Obj) → Prop) (O : SrcOk prog w A h₀ L m news h I fp wr n P St) (hsz : n * k ≤ sizeLine)
    (hcell : ∀ y ∈ scope.names, y.2 ≠ .cell) (hkind : scope.kind = .function) (hx : scope.names.lookup x = some .local) (hy : scope.names.lookup y = some .local) (hxy : x ≠ y) (j0 : J 0 [] news)
    (hs2 : ∀ C x, foldedSetIterable iter2 (compEnvC scope cl C env) x = pure x) (src2 : Src2Ok prog w A env scope cl iter2 h₀ L m s P2 k)
    (elem : Elem2Ok prog w A env scope cl x y elt h₀ L m s news J P P2 n k)
    (hRR : ∀ D C h' tk m' zs n₁ c, D ≠ C → D ≠ L → C ≠ L → h₀.get? D = none → h₀.get? C = none → h'.Ns C m' → h'.get? D = some (listOf zs.toArray c) → Fr h₀ L h' m → News h₀ L h' n₁ → (∀ q ∈ n₁, q.1 ≠ C ∧ q.1 ≠ D) → (∀ q ∈ news, q ∈ n₁) → J (n * k) zs n₁ → zs.length = n * k → RR (.ref D) C (.ok .next) { s with heap := h', toks := tk }) :
    wpAny (model prog w) A (newList []) (fun acc s₃ => wpAny (model prog w) A (newFunctionEnv scope env.globals cl [] env.qual none .none (some env)) (fun cenv s₄ =>
      codeAny (model prog w) A (.compStart (.ListComp elt [⟨.Name x px, iter, [], 0⟩, ⟨.Name y py, iter2, [], 0⟩] scope pos) 0 (.ref I) acc { cenv with scope := relabel scope env }) (RR acc cenv.locals) s₄) E s₃) E { s with heap := h, toks := tk } := by
  obtain ⟨W, hI, hfp, hwr, -, hst, lt, fI, F, N, nI⟩ := O
  refine wpAny_newObj_type (wpAny_newFunctionEnv hcell (by intro y hy; simp at hy) (fun h₁ hns₁ hsb₁ => ?_) hkind)
  dsimp only at hns₁ hsb₁ ⊢
  generalize hH2 : h.push { cls := .type "list", dict := none, data := .seq ([] : List Value).toArray } = H2 at hns₁ hsb₁ ⊢
  have hC : H2.objs.size = h.objs.size + 1 := by rw [← hH2, Heap.size_push]
  have hDC : h.objs.size ≠ H2.objs.size := by rw [hC]; exact Nat.ne_of_lt (Nat.lt_succ_self _)
  have below : ∀ b, b < h.objs.size → b ≠ H2.objs.size ∧ b ≠ h.objs.size := fun b hb => ⟨by rw [hC]; exact Nat.ne_of_lt (Nat.lt_succ_of_lt hb), Nat.ne_of_lt hb⟩
  have old : ∀ b o, h.get? b = some o → h₁.get? b = some o := fun b o e => hsb₁.extBut b o (below b (Heap.lt_size e)).1 (Heap.get?_push_of_some _ (hH2 ▸ Heap.get?_push_of_some _ e))
  have hacc : h₁.PlainList h.objs.size #[] := ⟨_, hsb₁.extBut _ _ hDC (Heap.get?_push_of_some _ (hH2 ▸ Heap.get?_push_size _ rfl))⟩
  have hst₁ : St 0 h₁ := W.frame _ _ _ hst fun b _ o e => old b o e
  have hL := F.ns.lt
  have ge0 : ∀ b, h.objs.size ≤ b → h₀.get? b = none := fun b hb => by
    cases e : h₀.get? b with
    | none => rfl
    | some o => exact absurd (Heap.lt_size (F.keep b o e)) (Nat.not_lt.mpr hb)
  have F₁ : Fr h₀ L h₁ m := ⟨F.ns.at' fun o e => old _ o e, fun b o e => old b o (F.keep b o e), F.above⟩
  have N₁ : News h₀ L h₁ news := fun q hq => ⟨old _ _ (N q hq).1, (N q hq).2⟩
  have fD : h.objs.size ≠ L ∧ h₀.get? h.objs.size = none := ⟨Nat.ne_of_gt hL, ge0 _ (Nat.le_refl _)⟩
  have fC : H2.objs.size ≠ L ∧ h₀.get? H2.objs.size = none := ⟨by rw [hC]; exact Nat.ne_of_gt (Nat.lt_succ_of_lt hL), ge0 _ (by rw [hC]; exact Nat.le_succ _)⟩
  have loop : ∀ s₃ : Shared, s₃ = { s with heap := h₁, toks := tk + ([] : List (Str × Value)).length } →
      codeAny (model prog w) A (.compLoop (.ListComp elt [⟨.Name x px, iter, [], 0⟩, ⟨.Name y py, iter2, [], 0⟩] scope pos) 0 (.ref I) (.ref h.objs.size) (compEnvC scope cl H2.objs.size env)) (RR (.ref h.objs.size) H2.objs.size) s₃ := by
    rintro s₃ rfl
    refine comp_loop2 J W hI hfp hwr (lookup_relabel_local hx) (lookup_relabel_local hy) hxy (by simp [compEnvC, relabel, hkind]) hDC (Nat.ne_of_gt lt) (by rw [hC]; exact Nat.ne_of_gt (Nat.lt_succ_of_lt lt)) (fun q hq => ⟨nI q hq, (below _ (Heap.lt_size (N q hq).1)).1, (below _ (Heap.lt_size (N q hq).1)).2⟩) fI fC fD F₁ N₁ hst₁ hacc hns₁ hsz j0 (hs2 _) src2 elem ?_
    intro h' tk m' zs n₁ hn ⟨c, hpl⟩ F' N' nn sub hJ hz
    exact hRR _ _ h' tk m' zs n₁ c hDC fD.1 fC.1 fD.2 fC.2 hn hpl F' N' (fun q hq => (nn q hq).2) sub hJ hz
  exact codeAny_compStart_list (loop _ rfl) (W.self 0 _ _ _ hst₁ (loop _ rfl))
theorem ListComp2_own {elt iter iter2 : Expr} {x y : Str} {px py : Pos} {scope : Scope} {cl : List (Str × Addr)} {pos : Pos} {k : Nat} {P2 : Nat → Value → Prop} {Q : Value → Shared → Prop} (J : Nat → List Value → List (Addr × Obj) → Prop) (_F : Fr h₀ L s.heap m)
    (hclos : closureFor scope env = pure cl) (hcell : ∀ y ∈ scope.names, y.2 ≠ .cell) (hkind : scope.kind = .function)
    (hnames : ∀ y ∈ scope.names, y.2 = .local → scope.names.lookup y.1 = some .local) (hx : scope.names.lookup x = some .local) (hy : scope.names.lookup y = some .local) (hxy : x ≠ y)
    (h : wpAny (model prog w) A (eval iter env) (fun xv s₁ => wpAny (model prog w) A (pyIter xv) (fun it s₂ => ∃ I fp wr n P St h tk news', s₂ = { s with heap := h, toks := tk } ∧ it = .ref I ∧ SrcOk prog w A h₀ L m news' h I fp wr n P St ∧ n * k ≤ sizeLine ∧ J 0 [] news' ∧ Src2Ok prog w A env scope cl iter2 h₀ L m s P2 k ∧ Elem2Ok prog w A env scope cl x y elt h₀ L m s news' J P P2 n k ∧
      (∀ D zs c n₁ h' tk, Fr h₀ L h' m → News h₀ L h' ((D, listOf zs.toArray c) :: n₁) → (∀ q ∈ n₁, q.1 ≠ D) → (∀ q ∈ news', q ∈ n₁) → J (n * k) zs n₁ → zs.length = n * k → Q (.ref D) { s with heap := h', toks := tk })) E s₁) E s)
    (hs : ∀ x, foldedSetIterable iter env x = pure x) (hs2 : ∀ C x, foldedSetIterable iter2 (compEnvC scope cl C env) x = pure x) :
    wpAny (model prog w) A (eval (.ListComp elt [⟨.Name x px, iter, [], 0⟩, ⟨.Name y py, iter2, [], 0⟩] scope pos) env) Q E s := by
  rw [eval_ListComp]
  refine wpAny_comprehension_free (use := none) rfl hs hclos hkind hnames (wpAny_mono h (fun xv s₁ h₁ => wpAny_mono h₁ (fun it s₂ h₂ => ?_) fun _ _ e => e) fun _ _ e => e)
  obtain ⟨I, fp, wr, n, P, St, h, tk, news', rfl, rfl, O, hsz, j0, src2, elem, done⟩ := h₂
  refine comp_block2 (RR := fun acc C => compPost (model prog w) A E none Q acc C) J O hsz hcell hkind hx hy hxy j0 hs2 src2 elem ?_
  intro D C h' tk m' zs n₁ c hDC hDL hCL hD0 hC0 hn hD F' N' nn sub hJ hz
  exact ⟨m', hn, fun h'' hs'' => done D zs c n₁ h'' tk (fr_same F' hCL hC0 hs'') (news_same N' hD ⟨hDL, hD0⟩ hDC nn hs'') (fun q hq => (nn q hq).2) sub hJ hz⟩
/-- the inner source a tuple that is made anew -/
theorem src_tuple {t : Addr} {its : Array Value} {n : Nat} {h : Heap} {tk : Nat} {nw n₂ : List (Addr × Obj)} {Q : Value → Shared → Prop} (hh : A.handled = none) (F : Fr h₀ L h m) (N : News h₀ L h news) (hl : (t, ({ cls := .type "tuple", data := .seq its n } : Obj)) ∈ news) (hsz : its.size ≤ sizeLine)
    (hQ : ∀ I P St h', SrcOk prog w A h₀ L m news h' I [I, t] [I] its.size P St → (∀ i v, P i v → its[i]? = some v) → Q (.ref I) { s with heap := h', toks := tk }) :
    wpAny (model prog w) A (pyIter (.ref t)) Q E { s with heap := h, toks := tk } := by
  have z := N _ hl
  have hT : h.IsTuple t its := ⟨_, z.1, rfl, n, rfl⟩
  have hlt := Heap.lt_size z.1
  refine wpAny_pyIter_tuple hT ?_
  have up : ∀ b o, h.get? b = some o → (h.push { cls := .type "tuple_iterator", data := .fields #[.ref t, .int 0 0] }).get? b = some o := fun b o e => Heap.get?_push_of_some _ e
  refine hQ h.objs.size _ _ _ ⟨Walks.tuple hh h.objs.size t (Nat.ne_of_lt hlt) its, ?_, ?_, ?_, hsz, ⟨⟨_, Heap.get?_push_size _ rfl, rfl, rfl⟩, hT.at fun o e => up _ o e⟩, ?_, ?_, F.push _, fun q hq => ⟨up _ _ (N q hq).1, (N q hq).2⟩, fun q hq => Nat.ne_of_lt (Heap.lt_size (N q hq).1)⟩ fun _ _ h => h
  · rintro i h ⟨⟨o, e, _⟩, _⟩; exact ⟨o, e⟩
  · intro b hb
    rcases List.mem_cons.mp hb with rfl | hb
    · exact .inl rfl
    · exact .inr ⟨_, List.mem_singleton.mp hb ▸ hl⟩
  · intro b hb; exact List.mem_singleton.mp hb
  · rw [Heap.size_push]; exact Nat.lt_succ_self _
  · exact ⟨Nat.ne_of_gt F.ns.lt, next_is_new F⟩
end
end Mine
namespace Mine
section
variable {prog : Program} {w : World} {A : Around} {E : Value → Shared → Prop} {s : Shared} {h₀ : Heap} {L : Addr} {m : Str → Option Value} {news : List (Addr × Obj)} {env : Env}
theorem ints_snoc {zs : List Value} {xs : List Int} (h : IntsAre zs xs) (z : Int) (t : Tok) : IntsAre (zs ++ [.int z t]) (xs ++ [z]) := by
  induction h with
  | nil => exact .cons _ _ .nil
  | cons a b _ ih => exact .cons a b ih
def overA : List (Str × Value) → (Str → Option Value) → Str → Option Value
  | [], M => M
  | (a, v) :: r, M => fun y => if y = a then some v else overA r M y
theorem overA_eq : ∀ {l : List (Str × Value)} {M : Str → Option Value}, (∀ p ∈ l, M p.1 = some p.2) → overA l M = M
  | [], _, _ => rfl
  | (a, v) :: r, M, h => by
    funext y
    show (if y = a then some v else overA r M y) = M y
    by_cases e : y = a
    · rw [if_pos e, e]; exact (h _ (.head _)).symm
    · rw [if_neg e, overA_eq fun p hp => h p (.tail _ hp)]
theorem Agree.same {S : List Str} {M m : Str → Option Value} {x : Str} {v : Option Value} (h : Agree S M m) (e : M x = v) : Agree S M (fun y => if y = x then v else m y) := fun y hy => by
  show (if y = x then v else m y) = M y
  by_cases e2 : y = x
  · rw [if_pos e2, e2]; exact e.symm
  · rw [if_neg e2]; exact h y hy
/-- an item of a list of the ledger at a place that is known to hold it -/
theorem item_at {D : Addr} {a : Array Value} {k : Nat} {z : Int} {u : Tok} {v : Value} {value slice : Expr} {Q : Value → Shared → Prop} (N : News h₀ L s.heap news) (hl : (D, listOf a k) ∈ news) (hv : a.toList[z.toNat]? = some v) (h0 : 0 ≤ z) (hz : z < 1000) (h : Q v s)
    (hs : subscripted slice false (.ref D) (.int z u) = operate [.ref D, .int z u] (getItem (.ref D) (.int z u)) := by with_unfolding_all rfl) (hg : ∀ r, letTemporaryGo value (.ref D) r = pure () := by intro _; with_unfolding_all rfl) :
    wpAny (model prog w) A (subscriptTail value slice (.ref D) (.int z u)) Q E s :=
  item_listL (l := a.toList) ⟨_, (N _ hl).1, rfl, k, rfl⟩ h0 (by omega) hv h hs hg
theorem in_tupK {D : Addr} {a : Array Value} {k : Int} {t : Tok} {ns : List Int} {b : Bool} {c : Nat} {Q : Value → Shared → Prop} (N : News h₀ L s.heap news) (hm : (D, ({ cls := .type "tuple", data := .seq a c } : Obj)) ∈ news) (hb : decide (k ∈ ns) = b) (hi : IntsAre a.toList ns) (h : Q (.bool b) s) : wpAny (model prog w) A (compareOp .In (.int k t) (.ref D)) Q E s := by
  refine in_tuple_ints (News.isTup N hm) hi ?_
  have e : ns.any (· == k) = b := by
    rw [← hb]
    by_cases h : k ∈ ns
    · rw [decide_eq_true h, List.any_eq_true]
      exact ⟨_, h, beq_self_eq_true _⟩
    · rw [decide_eq_false h, Bool.eq_false_iff]
      intro h2
      rw [List.any_eq_true] at h2
      obtain ⟨y, hy, e⟩ := h2
      rw [beq_iff_eq.mp e] at hy
      exact h hy
  rw [e]
  exact h
end
end Mine
namespace Mine
open PySem PySem.W PyProof.Rows PySem.Calls
theorem strs_set {vs : List Value} {rs : List Str} (h : StrsAre vs rs) : ∀ (i : Nat) (y : Str) (t : Tok), StrsAre (vs.set i (.str y t)) (rs.set i y) := by
  induction h with
  | nil => intro i y t; exact .nil
  | cons a u hr ih =>
    intro i y t
    cases i with
    | zero => exact .cons _ _ hr
    | succ j => exact .cons _ _ (ih j y t)
/-- the list a of texts -/
def RowAt (news : List (Addr × Obj)) (a : Addr) (rs : List Str) : Prop := rs.length = 5 ∧ ∃ its k, (a, listOf its k) ∈ news ∧ StrsAre its.toList rs
theorem RowAt.mono {n n' : List (Addr × Obj)} {a : Addr} {rs : List Str} (h : RowAt n a rs) (k : ∀ q ∈ n, q ∈ n') : RowAt n' a rs := let ⟨h5, its, c, hm, hi⟩ := h; ⟨h5, its, c, k _ hm, hi⟩
theorem RowAt.kept {l : Addr} {n n' : List (Addr × Obj)} {a : Addr} {rs : List Str} (h : RowAt n a rs) (K : Kept l n n') (hne : a ≠ l) : RowAt n' a rs := let ⟨h5, its, c, hm, hi⟩ := h; ⟨h5, its, c, K _ hm hne, hi⟩
section
variable {prog : Program} {w : World} {A : Around} {E : Value → Shared → Prop} {s : Shared} {h₀ : Heap} {L a : Addr} {m : Str → Option Value} {news : List (Addr × Obj)} {rs : List Str}
theorem row_pick {z : Int} {u : Tok} {value slice : Expr} {Q : Value → Shared → Prop} (N : News h₀ L s.heap news) (R : RowAt news a rs) (hz : 0 ≤ z ∧ z < 5) (h : ∀ t, Q (.str (rs.getD z.toNat default) t) s)
    (hs : subscripted slice false (.ref a) (.int z u) = operate [.ref a, .int z u] (getItem (.ref a) (.int z u)) := by with_unfolding_all rfl) :
    wpAny (model prog w) A (subscriptTail value slice (.ref a) (.int z u)) Q E s := by
  obtain ⟨h5, its, k, hm, hi⟩ := R
  obtain ⟨h0, h1⟩ := hz
  obtain ⟨y, hy⟩ : ∃ y, rs[z.toNat]? = some y := ⟨_, List.getElem?_eq_getElem (by omega)⟩
  obtain ⟨t, ht⟩ := StrsAre.at hi hy
  have e : rs.getD z.toNat default = y := by simp [List.getD, hy]
  have hL : s.heap.IsList a its := ⟨_, (N _ hm).1, rfl, k, rfl⟩
  exact tail_any hL.typeIs slot_list_getitem.lookup (wpAny_getItem_list hL h0 (by omega) (by rw [← Array.getElem?_toList]; exact ht) (e ▸ h t)) hs
theorem row_item {z : Int} {u : Tok} {Q : Value → Shared → Prop} (N : News h₀ L s.heap news) (R : RowAt news a rs) (hz : 0 ≤ z ∧ z < 5) (h : ∀ t, Q (.str (rs.getD z.toNat default) t) s) :
    wpAny (model prog w) A (getItem (.ref a) (.int z u)) Q E s := by
  obtain ⟨h5, its, k, hm, hi⟩ := R
  obtain ⟨h0, h1⟩ := hz
  obtain ⟨y, hy⟩ : ∃ y, rs[z.toNat]? = some y := ⟨_, List.getElem?_eq_getElem (by omega)⟩
  obtain ⟨t, ht⟩ := StrsAre.at hi hy
  have e : rs.getD z.toNat default = y := by simp [List.getD, hy]
  have hL : s.heap.IsList a its := ⟨_, (N _ hm).1, rfl, k, rfl⟩
  exact wpAny_getItem_list hL h0 (by omega) (by rw [← Array.getElem?_toList]; exact ht) (e ▸ h t)
theorem row_set {z : Int} {u ty : Tok} {y : Str} {Q : Unit → Shared → Prop} (F : Fr h₀ L s.heap m) (N : News h₀ L s.heap news) (R : RowAt news a rs) (hz : 0 ≤ z ∧ z < 5)
    (h : ∀ h' news', Fr h₀ L h' m → News h₀ L h' news' → Kept a news news' → RowAt news' a (rs.set z.toNat y) → Q () { s with heap := h' }) :
    wpAny (model prog w) A (setItem (.ref a) (.int z u) (.str y ty)) Q E s := by
  obtain ⟨h5, its, k, hm, hi⟩ := R
  obtain ⟨h0, h1⟩ := hz
  have q := N _ hm
  have hsz : its.size = 5 := by rw [← Array.length_toList, StrsAre.len_eq hi]; exact h5
  refine ki_setAt q.1 h0 (by omega) (by omega) ?_
  obtain ⟨n', hn⟩ := mapSeq_to (fun xs => xs.setIfInBounds z.toNat (.str y ty)) its k
  have hs : Heap.SameBut a s.heap (s.heap.update a (Obj.mapSeq fun xs => xs.setIfInBounds z.toNat (.str y ty))) := Heap.SameBut.update ..
  have ho : (s.heap.update a (Obj.mapSeq fun xs => xs.setIfInBounds z.toNat (.str y ty))).get? a = some (listOf (its.setIfInBounds z.toNat (.str y ty)) n') := by
    rw [Heap.get?_update_self _ q.1 (by rw [hn]; rfl), hn]
  refine h _ _ (F.change hs q.2.1 q.2.2) (news_upd N hm hs ho) Kept.upd ⟨by rw [List.length_set]; exact h5, _, _, mem_upd_self hm, ?_⟩
  rw [Array.toList_setIfInBounds]
  exact strs_set hi _ _ _
theorem row_join {x : Str} {t : Tok} {Q : Value → Shared → Prop} (N : News h₀ L s.heap news) (R : RowAt news a rs) (hx : x.length ≤ 16) (hw : (rs.map (·.length)).sum ≤ 10000)
    (h : ∀ t' k, Q (.str (Txt.join x rs) t') { s with toks := k }) : wpAny (model prog w) A (call (.builtin "str.join") [.str x t, .ref a]) Q E s := by
  obtain ⟨h5, its, k, hm, hi⟩ := R
  have hL : s.heap.IsList a its := ⟨_, (N _ hm).1, rfl, k, rfl⟩
  exact join_listW hL hi hx (by omega) h
end
end Mine
namespace Mine
open PySem PySem.W PyProof.Rows PySem.SeqAt
/-- two values that compare as equal at once -/
def Alike0 (v w : Value) : Prop := (∃ z t u, v = .int z t ∧ w = .int z u) ∨ (∃ x t u, v = .str x t ∧ w = .str x u) ∨ v = w
/-- two values of the ledger that compare as equal, as deep as told -/
def Alike (n : List (Addr × Obj)) : Nat → Value → Value → Prop
  | 0, v, w => Alike0 v w
  | d + 1, v, w => Alike0 v w ∨ ∃ a b x y, v = .ref a ∧ w = .ref b ∧ ((∃ k j, (a, listOf x k) ∈ n ∧ (b, listOf y j) ∈ n) ∨ ((a, ({ cls := .type "tuple", data := .seq x } : Obj)) ∈ n ∧ (b, ({ cls := .type "tuple", data := .seq y } : Obj)) ∈ n)) ∧ Paired (Alike n d) x.toList y.toList
theorem Alike.mono {n n' : List (Addr × Obj)} (k : ∀ q ∈ n, q ∈ n') : ∀ {d : Nat} {v w : Value}, Alike n d v w → Alike n' d v w
  | 0, _, _, h => h
  | d + 1, v, w, h => by
    rcases h with h | ⟨a, b, x, y, e1, e2, h3, h4⟩
    · exact .inl h
    · refine .inr ⟨a, b, x, y, e1, e2, ?_, Paired.imp h4 fun _ _ h => Alike.mono k h⟩
      rcases h3 with ⟨i, j, h5, h6⟩ | ⟨h5, h6⟩
      · exact .inl ⟨i, j, k _ h5, k _ h6⟩
      · exact .inr ⟨k _ h5, k _ h6⟩
theorem Alike.int {n : List (Addr × Obj)} {d : Nat} {z : Int} {t u : Tok} : Alike n d (.int z t) (.int z u) := by
  cases d with
  | zero => exact .inl ⟨z, t, u, rfl, rfl⟩
  | succ d => exact .inl (.inl ⟨z, t, u, rfl, rfl⟩)
theorem Alike.str {n : List (Addr × Obj)} {d : Nat} {x : Str} {t u : Tok} : Alike n d (.str x t) (.str x u) := by
  cases d with
  | zero => exact .inr (.inl ⟨x, t, u, rfl, rfl⟩)
  | succ d => exact .inl (.inr (.inl ⟨x, t, u, rfl, rfl⟩))
theorem Alike.list {n : List (Addr × Obj)} {d : Nat} {a b : Addr} {x y : Array Value} {k j : Nat} (h1 : (a, listOf x k) ∈ n) (h2 : (b, listOf y j) ∈ n) (h : Paired (Alike n d) x.toList y.toList) : Alike n (d + 1) (.ref a) (.ref b) := .inr ⟨a, b, x, y, rfl, rfl, .inl ⟨k, j, h1, h2⟩, h⟩
theorem alike_ints {n : List (Addr × Obj)} {d : Nat} {vs ws : List Value} {ns : List Int} (h1 : IntsAre vs ns) : IntsAre ws ns → Paired (Alike n d) vs ws := by
  induction h1 generalizing ws with
  | nil => intro h; cases h; exact .nil
  | cons a t _ ih => intro h; cases h with | cons _ u h => exact .cons Alike.int (ih h)
theorem paired_get {α β : Type} {F : α → β → Prop} {a : List α} {b : List β} (h : Paired F a b) : ∀ (i : Nat) (h1 : i < a.length) (h2 : i < b.length), F a[i] b[i] := by
  induction h with
  | nil => intro i h1; cases h1
  | cons h _ ih =>
    intro i h1 h2
    cases i with
    | zero => exact h
    | succ j => exact ih j (Nat.lt_of_succ_lt_succ h1) (Nat.lt_of_succ_lt_succ h2)
theorem paired_len' {α β : Type} {F : α → β → Prop} {a : List α} {b : List β} (h : Paired F a b) : a.length = b.length := by
  induction h with
  | nil => rfl
  | cons _ _ ih => rw [List.length_cons, List.length_cons, ih]
theorem all_true (m : Nat) : (List.range m).all (fun _ => true) = true := by rw [List.all_eq_true]; exact fun _ _ => rfl
section
variable {s : Shared} {h₀ : Heap} {L : Addr} {news : List (Addr × Obj)}
theorem Alike0.eqAt {A : Around} {v w : Value} (h : Alike0 v w) : EqAt A s v w true := by
  rcases h with ⟨z, t, u, rfl, rfl⟩ | ⟨x, t, u, rfl, rfl⟩ | rfl
  · have := (MeetsSeq.EqGives.int z z t u).at A s
    rwa [beq_self_eq_true] at this
  · have := (SeqRoads2.EqGives.str x x t u).at A s
    rwa [beq_self_eq_true] at this
  · exact EqAt.same _
theorem alike_eqAt (N : News h₀ L s.heap news) : ∀ {d : Nat} {A : Around} {v w : Value}, A.units + d < cLine → Alike news d v w → EqAt A s v w true
  | 0, _, _, _, _, h => Alike0.eqAt h
  | d + 1, A, v, w, hu, h => by
    rcases h with h | ⟨a, b, x, y, rfl, rfl, h3, h4⟩
    · exact h.eqAt
    · have hsz : x.size = y.size := by have := paired_len' h4; rwa [Array.length_toList, Array.length_toList] at this
      have he : ∀ j (h1 : j < x.size) (h2 : j < y.size), EqAt A.in1 s x[j] y[j] ((fun _ => true) j) := fun j h1 h2 => by
        have := paired_get h4 j (by rw [Array.length_toList]; exact h1) (by rw [Array.length_toList]; exact h2)
        rw [Array.getElem_toList, Array.getElem_toList] at this
        exact alike_eqAt N (A := A.in1) (by show A.units + 1 + d < cLine; omega) this
      by_cases e : a = b
      · subst e; exact EqAt.same _
      · refine EqAt.of_refs e ?_
        rcases h3 with ⟨k, j, m1, m2⟩ | ⟨m1, m2⟩
        · have := RcAt.lists (A := A) (s := s) (l := a) (b := b) (e := fun _ => true) ⟨_, (N _ m1).1, rfl, k, rfl⟩ ⟨_, (N _ m2).1, rfl, j, rfl⟩ hsz (by omega) he
          rwa [all_true] at this
        · have := RcAt.tuples (A := A) (s := s) (l := a) (b := b) (e := fun _ => true) (News.isTup N m1) (News.isTup N m2) (by omega) he
          rwa [all_true, hsz, beq_self_eq_true, Bool.and_true] at this
end
section
variable {prog : Program} {w : World} {A : Around} {E : Value → Shared → Prop} {s : Shared} {h₀ : Heap} {L a b : Addr} {news : List (Addr × Obj)} {x y : Array Value} {d : Nat} {Q : Value → Shared → Prop}
theorem eq_list_alike {k j : Nat} (N : News h₀ L s.heap news) (m1 : (a, listOf x k) ∈ news) (m2 : (b, listOf y j) ∈ news) (h4 : Paired (Alike news d) x.toList y.toList) (hu : A.units + 64 < cLine) (hd : d < 60) (h : Q (.bool true) s) :
    wpAny (model prog w) A (compareOp .Eq (.ref a) (.ref b)) Q E s := by
  have hsz : x.size = y.size := by have := paired_len' h4; rwa [Array.length_toList, Array.length_toList] at this
  refine eq_listAt (e := fun _ => true) ⟨_, (N _ m1).1, rfl, k, rfl⟩ ⟨_, (N _ m2).1, rfl, j, rfl⟩ hsz (by omega) (fun j h1 h2 => ?_) ?_
  · have := paired_get h4 j (by rw [Array.length_toList]; exact h1) (by rw [Array.length_toList]; exact h2)
    rw [Array.getElem_toList, Array.getElem_toList] at this
    exact alike_eqAt N (A := A.in1) (by show A.units + 1 + d < cLine; omega) this
  · rw [all_true]
    exact h
end
end Mine
namespace Mine
open PySem PySem.W PyProof.Rows PySem.Calls
/-- an exception passes through a frame, whatever its cells -/
theorem leave_onX {M : Model} {A : Around} {E : Value → Shared → Prop} {s' : Shared} {base g g₂ : Heap} {outer : List Env} {L e t : Addr} {m : Str → Option Value} {e0 : Env} {cls : Value} {vs : List Value} {Q : Unit → Shared → Prop} {news : List (Addr × Obj)}
    (hf0 : e0.frame = some L) (K : Below A base outer g) (F : Fr g L g₂ m) (R : RaisedS base g₂ (e0 :: outer) e cls t vs news s'.heap) (hsm : g₂.UpToSlots s'.heap)
    (hQ : ∀ h', RaisedS base g outer e cls t vs news h' → g.UpToSlots h' → Q () { s' with heap := h' }) : wpAny M (A.deeper e0) (leaving e0 (.ref e)) Q E s' := by
  have hself := kts_self F
  obtain ⟨⟨B, h1, h2, h3, h4, h5⟩, h6⟩ := R
  refine wpAny_leaves_onW (Around.frames_deeper K.stack) hf0 h4 fun h' x1 x2 => hQ h' ⟨⟨B, h1, fun b o hb hno => ?_, fun q hq => ?_, x1, h5⟩, h6.of_slots x2⟩ ((Heap.UpToSlots.of_keeps F.keep).trans (hsm.trans x2))
  · refine h2 b o (F.keep b o hb) fun hm => ?_
    obtain ⟨ev, hev, hfv⟩ := List.mem_filterMap.mp hm
    rcases List.mem_cons.mp hev with rfl | hev
    · rw [hf0] at hfv
      cases hfv
      rw [hself] at hb
      cases hb
    · exact hno (List.mem_filterMap.mpr ⟨ev, hev, hfv⟩)
  · exact ⟨(h3 q hq).1, kts_none F.keep (h3 q hq).2.1, (h3 q hq).2.2⟩
end Mine
namespace Mine
open PySem PySem.W PyProof PyProof.Rows PySem.Calls
def ofL (l : List Nat) : Str := ⟨l.toArray⟩
theorem ofL_len (l : List Nat) : (ofL l).length = l.length := by simp [ofL, Str.length]
theorem ofL_app (a b : List Nat) : ofL a ++ ofL b = ofL (a ++ b) := PySem.Str.ext' (by rw [PySem.Str.cps_append]; simp [ofL])
theorem ofL_of (x : Str) : x = ofL x.cps.toList := by cases x; rfl
theorem ofL_inj {a b : List Nat} (h : ofL a = ofL b) : a = b := by
  have := congrArg (fun s : Str => s.cps.toList) h
  simpa [ofL] using this
theorem ofL_nil : Str.ofString "" = ofL [] := by decide +kernel
theorem ofL_x : Str.ofString "x" = ofL [120] := by decide +kernel
theorem ofL_rev (l : List Nat) (u : Tok) : Txt.sliceBy (ofL l) none none (-1, u) = ofL l.reverse := by
  have h := step_rev_list (ofL l) u
  rw [ofL_of (Txt.sliceBy (ofL l) none none (-1, u)), h]
  congr 1
  rw [ofL_len]
  apply List.ext_getElem
  · simp
  · intro i h1 h2
    have hi : i < l.length := by simpa using h1
    have hj : l.length - 1 - i < l.length := by omega
    simp [ofL, Array.getD, hi, hj]
theorem ofL_join (a b c d e : List Nat) : Txt.join (Str.ofString "") [ofL a, ofL b, ofL c, ofL d, ofL e] = ofL (a ++ b ++ c ++ d ++ e) := by
  show ofL a ++ Str.ofString "" ++ ofL b ++ Str.ofString "" ++ ofL c ++ Str.ofString "" ++ ofL d ++ Str.ofString "" ++ ofL e = _
  rw [ofL_nil]
  simp only [ofL_app, List.append_nil, List.append_assoc]
theorem ofL_getD (l : List Nat) (k : Nat) : (ofL l).cps.getD k 0 = l.getD k 0 := by
  rw [← PyProof.Rows.getD_list]
  simp [ofL]
theorem str_nil {y : Str} (h : y.length = 0) : y = Str.ofString "" := by
  obtain ⟨⟨y⟩⟩ := y
  have : y = [] := List.length_eq_zero_iff.mp h
  subst this
  decide +kernel
theorem ofL_strip (l : List Nat) : Txt.stripChars (ofL l) (Str.ofString "x") = Str.ofString "" ↔ ∀ c ∈ l, c = 120 := by
  have goes : ∀ c : Nat, (Str.ofString "x").cps.contains c = true ↔ c = 120 := fun c => by
    rw [show (Str.ofString "x").cps = #[120] from by decide +kernel]
    simp
  unfold Txt.stripChars
  rw [PyProof.Rows.stripBy_eq]
  generalize hg : (Str.ofString "x").cps.contains = g
  rw [hg] at goes
  obtain ⟨l1, l2, l3⟩ := lo_facts g (ofL l)
  obtain ⟨h1, h2, h3, h4⟩ := hi_facts g (ofL l) (stripLo g true (ofL l)) l1
  generalize stripLo g true (ofL l) = lo at *
  generalize stripHi g true (ofL l) lo = hi at *
  have hlen := size_strSub (ofL l) lo hi h2
  rw [ofL_len] at *
  constructor
  · intro h
    rw [h, show (Str.ofString "").length = 0 from by decide +kernel] at hlen
    intro c hc
    obtain ⟨k, hk, rfl⟩ := List.mem_iff_getElem.mp hc
    have e : (ofL l).cps.getD k 0 = l[k] := by rw [ofL_getD]; simp [List.getD, hk]
    rw [← goes, ← e]
    by_cases hkl : k < lo
    · exact l2 k hkl
    · exact h3 k (by omega) hk
  · intro h
    have hz : hi - lo = 0 := by
      rcases l3 with l3 | l3
      · omega
      · by_cases hl : lo < l.length
        · have e : (ofL l).cps.getD lo 0 = l[lo] := by rw [ofL_getD]; simp [List.getD, hl]
          rw [e, (goes _).mpr (h _ (List.getElem_mem hl))] at l3
          cases l3
        · omega
    rw [hz] at hlen
    exact str_nil hlen
theorem ofL_take1 (l : List Nat) : Txt.slice (ofL l) none (some 1) = ofL (l.take 1) := by
  show PySem.StrLaws.sliceText (ofL l) none (some 1) = _
  unfold PySem.StrLaws.sliceText
  rw [PySem.StrLaws.sliceIdx_none_lo]
  cases l with
  | nil => decide +kernel
  | cons c r =>
    have h := PySem.StrLaws.sliceText_nat (ofL (c :: r)) (a := 0) (b := 1) (by decide) (by rw [ofL_len]; simp)
    unfold PySem.StrLaws.sliceText at h
    exact h.trans (by simp [ofL])
theorem first_any (l : List Nat) : ([Str.ofString "x", Str.ofString "o"].any (· == Txt.slice (ofL l) none (some 1))) = (l.take 1 == [120] || l.take 1 == [111]) := by
  rw [ofL_take1, ofL_x, show Str.ofString "o" = ofL [111] from by decide +kernel]
  have key : ∀ (a b : List Nat), (ofL a == ofL b) = (b == a) := fun a b => by
    by_cases h : a = b
    · subst h
      rw [beq_self_eq_true, beq_self_eq_true]
    · rw [beq_eq_false_iff_ne.mpr (fun e => h (ofL_inj e)), beq_eq_false_iff_ne.mpr (fun e : b = a => h e.symm)]
  simp only [List.any_cons, List.any_nil, Bool.or_false, key]
end Mine
namespace Mine
open PySem PySem.W PyProof.Rows PyProof.Rows.LCp PyProof.Rows.LCg
section
variable {prog : Program} {w : World} {A : Around} {E : Value → Shared → Prop} {s : Shared} {h₀ : Heap} {L : Addr} {m : Str → Option Value} {news : List (Addr × Obj)} {env : Env}
theorem rest_names {x x₂ z : Str} {pz : Pos} {scope : Scope} {cl : List (Str × Addr)} {l : Addr} {its : Array Value} {ps : List (Str × Value)} {s₂ : Shared} {Fin : List Value → List (Addr × Obj) → Prop} (hP : PairsN news its.toList ps) (hz : z = x ∨ z = x₂) (hk : ∀ C, (compEnvC scope cl C env).scope.kind = .function) (hj : ∀ C, (compEnvC scope cl C env).kindOf z = some .local) (hd : (z == ("__debug__" : Str)) = false)
    (hS : SrcAt h₀ l its news) (fin : ∀ ys : List Value, ys.length = its.size → Fin ys news) :
    ∀ (k i : Nat) (ys : List Value), i + k = its.size → ys.length = i → CompRestP prog w A h₀ L m env (.Name z pz) x x₂ scope cl s₂ (SrcAt h₀ l its) (fun i v => its[i]? = some v) Fin k i ys news
  | 0, i, ys, h1, h2 => CompRestP.zero (fin ys (by omega))
  | k + 1, i, ys, h1, h2 => CompRestP.succ fun v hv => by
    obtain ⟨t, nm, tk, val, rfl, ht, -, -⟩ := hP.at_ i v (by rw [Array.getElem?_toList]; exact hv)
    refine ⟨t, _, .str nm tk, val, _, rfl, ht, rfl, rfl, fun I oI C oC D m₂ h tk' E' hC e1 e2 F N off ne => ?_⟩
    obtain ⟨u, hu⟩ : ∃ u, m₂ z = some u := by
      rcases hz with rfl | rfl
      · exact ⟨_, e1⟩
      · exact ⟨_, e2⟩
    refine wpAny_Name (wpAny_loadName_local (hk C) (hj C) (hC.ns (N (C, oC) (.tail _ (.head _))).1) hu ?_) hd
    exact ⟨h, tk', news, rfl, F, N, off, hS, rest_names hP hz hk hj hd hS fin k (i + 1) (ys ++ [u]) (by omega) (by rw [List.length_append, h2]; rfl)⟩
/-- [k for k, v in L], [v for k, v in L] over pairs: as long as L -/
theorem pairs_comp {x x₂ z : Str} {pz px px₂ tp : Pos} {tk : Nat} {iter : Expr} {scope : Scope} {cl : List (Str × Addr)} {pos : Pos} {l : Addr} {its : Array Value} {n : Nat} {ps : List (Str × Value)} {Q : Value → Shared → Prop} (hh : A.handled = none) (F₀ : Fr h₀ L s.heap m) (hl : (l, listOf its n) ∈ news) (hP : PairsN news its.toList ps) (hsz : its.size ≤ 1000)
    (hclos : closureFor scope env = pure cl) (hcell : ∀ y ∈ scope.names, y.2 ≠ .cell) (hkind : scope.kind = .function)
    (hnames : ∀ y ∈ scope.names, y.2 = .local → scope.names.lookup y.1 = some .local) (hx : scope.names.lookup x = some .local) (hx₂ : scope.names.lookup x₂ = some .local) (hxx : x ≠ x₂)
    (hz : z = x ∨ z = x₂) (hk : ∀ C, (compEnvC scope cl C env).scope.kind = .function) (hj : ∀ C, (compEnvC scope cl C env).kindOf z = some .local) (hd : (z == ("__debug__" : Str)) = false)
    (hiter : ∀ Q' : Value → Shared → Prop, (∀ h' tk, Fr h₀ L h' m → News h₀ L h' news → Q' (.ref l) { s with heap := h', toks := tk }) → wpAny (model prog w) A (eval iter env) Q' E s)
    (hs : ∀ x, foldedSetIterable iter env x = pure x)
    (hQ : ∀ D (ys : List Value) k h' tk, ys.length = its.size → Fr h₀ L h' m → News h₀ L h' ((D, listOf ys.toArray k) :: news) → (∀ q ∈ news, q.1 ≠ D) → Q (.ref D) { s with heap := h', toks := tk }) :
    wpAny (model prog w) A (eval (.ListComp (.Name z pz) [⟨.Tuple [.Name x px, .Name x₂ px₂] tk tp, iter, [], 0⟩] scope pos) env) Q E s := by
  refine ListComp_P F₀ hclos hcell hkind hnames hx hx₂ hxx (hiter _ fun h' tk' F N => ?_) hs
  refine SrcLP.ledger hh F N hl (by rw [sizeLine_eq]; omega) fun g => ?_
  refine rest_names hP hz hk hj hd (.inr ⟨_, hl, rfl, _, rfl⟩) (fun ys hys => ?_) its.size 0 [] (Nat.zero_add _) rfl
  intro D h tk2 F' N' off
  refine hQ D ys _ h tk2 hys F' N' fun q hq => ?_
  have : ∀ {a : List (Addr × Obj)}, Off1 D a → ∀ q ∈ a, q.1 ≠ D := by
    intro a
    induction a with
    | nil => intro _ q hq; cases hq
    | cons b r ih =>
      intro h q hq
      rcases List.mem_cons.mp hq with rfl | hq
      · exact h.1
      · exact ih h.2 q hq
  exact this off q hq
end
end Mine
namespace Mine
open PySem PySem.W PyProof PyProof.Rows PySem.Calls
section
variable {prog : Program} {w : World} {A : Around} {E : Value → Shared → Prop} {s : Shared} {h₀ : Heap} {L : Addr} {m : Str → Option Value} {news : List (Addr × Obj)} {env : Env}
/-- row[::-1] if place < 4 else '' -/
theorem rev_elt {scope : Scope} {cl : List (Str × Addr)} {p1 p2 p3 p4 p5 p6 p7 p8 p9 p10 : Pos} {cO : Addr} {oO : Obj} {place : Int} {tp t : Tok} {l : List Nat} {C : Addr} {m₃ : Str → Option Value} {Q : Value → Shared → Prop}
    (hk : (compEnvC scope cl C env).scope.kind = .function) (hj : (compEnvC scope cl C env).kindOf (Str.ofString "row") = some .local) (h1 : (compEnvC scope cl C env).kindOf (Str.ofString "place") = some .cell)
    (l1 : cl.lookup (Str.ofString "place") = some cO) (F : Fr h₀ L s.heap m)
    (N : News h₀ L s.heap news) (hO : (cO, oO) ∈ news) (dO : oO.data = .cell (some (.int place tp))) (hl : l.length ≤ 2000)
    (hn : s.heap.Ns C m₃) (hm : m₃ (Str.ofString "row") = some (.str (ofL l) t))
    (hQ : ∀ h' tk t', Fr h₀ L h' m → News h₀ L h' news → Q (.str (ofL (if place < 4 then l.reverse else [])) t') { s with heap := h', toks := tk }) :
    wpAny (model prog w) A (eval (.IfExp (.Compare (.Name (Str.ofString "place") p1) [.Lt] [.Constant (.int 4) 0 p2] p3) (.Subscript (.Name (Str.ofString "row") p4) (.Slice none none (some (.UnaryOp .USub (.Constant (.int 1) 0 p5) p6)) p7) p8) (.Constant (.str (Str.ofString "")) 0 p9) p10) (compEnvC scope cl C env)) Q E s := by
  refine IfExp_ (wpAny_isTrue_Compare1 ?_)
  refine wpAny_Name (wpAny_loadName_cell hk h1 l1 ⟨oO, (N _ hO).1, dO⟩ ?_)
  refine wpAny_Constant_int ?_
  refine PyProof.Rows.lt_int ?_
  refine wpAny_truthy_bool ?_
  by_cases e : place < 4
  · rw [if_pos (decide_eq_true e)]
    simp only [if_pos e] at hQ
    refine Subscript_ ?_
    refine wpAny_Name (wpAny_loadName_local hk hj hn hm ?_)
    refine wpAny_Slice ?_
    refine evalPart_none_step ?_
    refine evalPart_none_step ?_
    refine evalPart_some_step ?_
    refine UnaryOp_ ?_
    refine wpAny_Constant_int ?_
    refine PyProof.Rows.neg_int ?_
    refine slice_strK_nn (s := ⟨_, _, _, _, _⟩) F N (by decide) ?_ (hsz := by rw [ofL_len, sizeLine_eq]; omega)
    intro h' t' c F' N'
    rw [show (-(1 : Int)) = -1 from rfl, ofL_rev]
    exact hQ _ _ _ F' N'
  · rw [if_neg (by rw [decide_eq_true_eq]; exact e)]
    simp only [if_neg e] at hQ
    refine wpAny_Constant_str ?_
    rw [ofL_nil]
    exact hQ _ _ _ F N
end
end Mine
namespace Mine
section
local macro_rules | `(tactic| k_room) => `(tactic| k_extra "k_room")
local macro_rules | `(tactic| k_mem) => `(tactic| k_extra "k_mem")
local macro_rules | `(tactic| k_all) => `(tactic| k_extra "k_all")
local macro_rules | `(tactic| walk_at $s:str) => `(tactic| k_extra $s)
section
local macro_rules | `(tactic| k_enter) => `(tactic| (walk_at "code_def"; k_whole; intro g' L' h' FG' F' N' B' X' T'; (try dsimp only); (try k_lift B'); (try k_fold)))
local macro_rules | `(tactic| k_enter) => `(tactic| (walk_at "code_defC"; k_whole; intro g' L' h' tk' cells' FG' F' N' Y' B' X' T' l1; k_cells Y'; (try simp only [List.cons_append, List.nil_append] at N'); (try dsimp only); (try k_lift B'); (try k_fold)))
local macro_rules | `(tactic| walk_at "enter_more") => `(tactic| (walk_at "kp_more"; k_whole; intro D' o' g' L' h' tk' l1 lo' hs' fs' FG' F' N' B' X' T'; (try dsimp only); (try k_lift B'); (try k_fold)))

section
theorem kw2 : True := by
  w_top off
  k_with_none
  k_with "k_room" => first | ((try simp only [depth_under_make, depth_under_kw, depth_in1, depth_deeper, depth_caller]); omega) | decide
  k_with "code_def" => (refine' code_def ?k1w2 ?k2w2 ?k3w2 ?k4w2 ?k5w2 ?kAw2 ?kFw2 ?kKw2 ?k6w2 ?k7w2 ?k8w2 ?k9w2 ?kBw2 ?_ ?c2w2 ?c3w2 ?c4w2 ?c5w2; (case k1w2 => k_asm); (case k2w2 => k_asm); (case k3w2 => k_asm); (case k4w2 => k_asm); (case k5w2 => k_asm); (case kAw2 => assumption); (case kFw2 => assumption); (case kKw2 => assumption);  (case k6w2 => k_is); (case k7w2 => k_is); (case k8w2 => k_room); (case k9w2 => first | exact BindsTo.of_eq rfl | exact binds_K (by k_in) rfl (by k_is) rfl rfl rfl | fail "k_enter: no rule for these arguments"); (case c5w2 => decide); (case kBw2 => exact locs rfl); (case c2w2 => exact rfl); (case c3w2 => exact rfl); (case c4w2 => exact rfl))
  k_with "code_defC" => (refine' code_defC ?k1w3 ?k2w3 ?k3w3 ?k4w3 ?k5w3 ?kAw3 ?kFw3 ?kKw3 ?k6w3 ?k7w3 ?k8w3 ?k9w3 ?kBw3 ?kDw3 ?_ ?c2w3 ?c3w3 ?c4w3; (case k1w3 => k_asm); (case k2w3 => k_asm); (case k3w3 => k_asm); (case k4w3 => k_asm); (case k5w3 => k_asm); (case kAw3 => assumption); (case kFw3 => assumption); (case kKw3 => assumption); (case k6w3 => k_is); (case k7w3 => k_is); (case k8w3 => k_room); (case k9w3 => first | exact BindsTo.of_eq rfl | exact binds_K (by k_in) rfl (by k_is) rfl rfl rfl | fail "k_enter: no rule for these arguments"); (case kBw3 => exact rfl); (case kDw3 => decide +kernel); (case c2w3 => exact rfl); (case c3w3 => exact rfl); (case c4w3 => exact rfl))
  k_with "k_mem" => first | assumption | exact List.Mem.head _ | (refine' List.Mem.tail _ ?_; k_mem)
  k_with "k_all" => exact all_ne_of_lt (by assumption) (by first | exact Nat.le_refl _ | exact Nat.le_succ _ | omega)
  k_with "call builtin:str.lower" => (refine PyProof.Rows.SCL.lower (by omega) ?_; intro _)
  k_with "eval ListComp" => refine hold_intro ?_
  k_with "eval Slice none none none" => (refine slice_K (by assumption) (by assumption) ?_; intro _ _ _ _; (try k_sweep))
  k_with "setItem ref ref ref" => refine hold_intro ?_
  k_with "exec Assign cons ListComp" => ((with_reducible show wpAny _ _ (exec (Stmt.Assign [Expr.Subscript _ _ _] _ _) _) _ _ _); refine wpAny_Assign_Subscript ?_)
  k_with "call builtin:len" => (refine' len_L ?Nw11 ?hlw11 ?hsw11 ?_; (case Nw11 => k_asm); (case hlw11 => k_mem); (case hsw11 => omega); intro _ _)
  k_with "subscriptTail Name Slice ref ref" => ((with_reducible show wpAny _ _ (subscriptTail _ _ (Value.ref _) (Value.ref _)) _ _ _); refine' copy_L ?Fw12 ?Nw12 ?hlw12 ?hsw12 ?hzw12 ?_ ?hew12; (case Fw12 => k_asm); (case Nw12 => k_asm); (case hlw12 => k_mem); (case hsw12 => exact List.Mem.head _); (case hzw12 => rw [sizeLine_eq]; omega); (case hew12 => with_unfolding_all rfl); intro _ _ _ _ _; (try k_sweep))
  k_with "kp_more" => (refine' kp_more ?k1w13 ?k2w13 ?k3w13 ?k4w13 ?k5w13 ?kAw13 ?kFw13 ?kKw13 ?k6w13 ?k7w13 ?k8w13 ?kXw13 ?kMw13 ?kNw13 ?kDw13 ?kRw13 ?kPw13 ?kTw13 ?kBw13 ?_ ?c2w13 ?c3w13 ?c4w13 ?c5w13; (case kAw13 => assumption); (case kFw13 => assumption); (case kKw13 => assumption); (case k1w13 => k_asm); (case k2w13 => k_asm); (case k3w13 => k_asm); (case k4w13 => k_asm); (case k5w13 => k_asm); (case k6w13 => k_is); (case k7w13 => k_is); (case k8w13 => k_room); (case kXw13 => kp_lit); (case kMw13 => exact rfl); (case kNw13 => exact rfl); (case kDw13 => kp_flats); (case kRw13 => exact rfl); (case kPw13 => exact rfl); (case kTw13 => exact fun _ => rfl); (case kBw13 => exact fun _ => locs rfl); (case c5w13 => decide); (case c2w13 => exact rfl); (case c3w13 => exact rfl); (case c4w13 => exact rfl))
  k_with "exec For Tuple Name" => refine hold_intro ?_
  k_with "exec For Tuple Call" => refine hold_intro ?_
  k_with "exec For Tuple Call cons nil" => refine hold_intro ?_
  k_with "exec For Tuple Name cons nil" => refine hold_intro ?_
  k_with "call builtin:list.append" => (refine' append_L ?Fw18 ?Nw18 ?hlw18 ?_ ?hzw18; (case Fw18 => k_asm); (case Nw18 => k_asm); (case hlw18 => k_mem); (case hzw18 => (rw [sizeLine_eq]; omega)); intro _ _ _)
  k_with "execs cons" => ((with_reducible show wpAny _ _ (execs [_] _) _ _ _); refine execs_one ?_)
  k_with "k_room" => first | exact room0 (by with_reducible assumption) (by decide) | exact room1 (by with_reducible assumption) rfl (by decide) | exact room2 (by with_reducible assumption) rfl (by decide)
  k_with "storeName" => ((with_reducible show wpAny _ _ (storeName _ _ _) _ _ _); dsimp only)
  k_with "newList" => ((with_reducible show wpAny _ _ (newList _) _ _ _); dsimp only)
  k_with "newTuple" => ((with_reducible show wpAny _ _ (newTuple _) _ _ _); dsimp only)
  k_with "getMethod ref" => ((with_reducible show wpAny _ _ (getMethod (Value.ref _) (PySem.Str.ofString "append") _) _ _ _); (refine' listMethod_K ?Nw24 ?mw24 PySem.F.slot_list_append PySem.F.type_list_append ?_; (case Nw24 => k_asm); (case mw24 => k_mem)))
  k_with "callWith ref" => ((with_reducible show wpAny _ _ (callWith _ _ _ _ (backToKw _ _)) _ _ _); k_dflt (refine' callWith_KW ?k1w25 ?k2w25 ?k3w25 ?_; (case k1w25 => k_asm); (case k2w25 => k_is); (case k3w25 => exact rfl); k_whole))
  trivial
abbrev pg : Program := PySem.Challenge.rw_un0065_01.row.prog
theorem patN {w : World} {h : Heap} (X : (hd.heap_39 w.params).In h) : PatAt h 48 codeN := by
  have h1 : h.get? 48 = _ := X 48 _ (by k_is)
  have h2 : h.get? 47 = _ := X 47 _ (by k_is)
  exact ⟨⟨_, _, 47, _, 0, h1, h2, by decide +kernel⟩⟩
theorem patV {w : World} {h : Heap} (X : (hd.heap_39 w.params).In h) : PatAt h 53 codeV := by
  have h1 : h.get? 53 = _ := X 53 _ (by k_is)
  have h2 : h.get? 52 = _ := X 52 _ (by k_is)
  exact ⟨⟨_, _, 52, _, 0, h1, h2, by decide +kernel⟩⟩
/-- where a call stands -/
structure Sit (w : World) (A A₀ : Around) (base h₀ : Heap) (env : Env) (outer : List Env) (L : Addr) (m : Str → Option Value) (p : Program) (loose : List Str) (mean : ExcName → Option Value) (mg mb : Str → Option Value) (news : List (Addr × Obj)) (h : Heap) (d : Nat) : Prop where
  KX : (hd.heap_39 w.params).In h₀
  T : Top p loose mean mg mb h₀
  B : Below A₀ base outer h₀
  F : Fr h₀ L h m
  N : News h₀ L h news
  hA : A.frames = some (env :: outer)
  hf : env.frame = some L
  hke : env.scope.kind = .function
  hroom : A.depth + d < recursionLimit
  hh : A.handled = none
/-- a table of the text's class -/
structure Tab (w : World) (news : List (Addr × Obj)) (x l : Addr) : Prop where
  at_ : ∃ d tl, (x, instObj 184 d) ∈ news ∧ (d, dictOf [⟨PyData.keyHash w.params (Str.ofString "_headers"), .str (Str.ofString "_headers") tl, .ref l⟩] 1) ∈ news
theorem Tab.mono {w : World} {news news' : List (Addr × Obj)} {x l : Addr} (T : Tab w news x l) (k : ∀ p ∈ news, p ∈ news') : Tab w news' x l := by
  obtain ⟨d, tl, a, b⟩ := T.at_
  exact ⟨d, tl, k _ a, k _ b⟩
section
variable {w : World} {A : Around} {E : Value → Shared → Prop} {s : Shared} {h₀ : Heap} {L : Addr} {m : Str → Option Value}
theorem gm_N {pl : Sem Bool} {Q : Value × List Value → Shared → Prop} (F : Fr h₀ L s.heap m) (X : (hd.heap_39 w.params).In h₀) (h : Q (.builtin "re.Pattern.search", [.ref 48]) s) :
    wpAny (model pg w) A (getMethod (.ref 48) (Str.ofString "search") pl) Q E s := getMethod_search (patN (X.keeps F.keep)) h
theorem gm_V {pl : Sem Bool} {Q : Value × List Value → Shared → Prop} (F : Fr h₀ L s.heap m) (X : (hd.heap_39 w.params).In h₀) (h : Q (.builtin "re.Pattern.search", [.ref 53]) s) :
    wpAny (model pg w) A (getMethod (.ref 53) (Str.ofString "search") pl) Q E s := getMethod_search (patV (X.keeps F.keep)) h
theorem se_N {x : Str} {t : Tok} {Q : Value → Shared → Prop} (F : Fr h₀ L s.heap m) (X : (hd.heap_39 w.params).In h₀) (hx : x.length ≤ 2 ^ 24) (hc : ctlIn isCtlN x.cps = false) (h : Q .none s) :
    wpAny (model pg w) A (call (.builtin "re.Pattern.search") [.ref 48, .str x t]) Q E s := search_call (patN (X.keeps F.keep)) hx (outN _) (fun _ => h) (fun e => by rw [hc] at e; cases e)
theorem se_V {x : Str} {t : Tok} {Q : Value → Shared → Prop} (F : Fr h₀ L s.heap m) (X : (hd.heap_39 w.params).In h₀) (hx : x.length ≤ 2 ^ 24) (hc : ctlIn isCtlV x.cps = false) (h : Q .none s) :
    wpAny (model pg w) A (call (.builtin "re.Pattern.search") [.ref 53, .str x t]) Q E s := search_call (patV (X.keeps F.keep)) hx (outV _) (fun _ => h) (fun e => by rw [hc] at e; cases e)
end
theorem kw1 : True := by
  k_with "getMethod ref" => (fail_if_success have := @offB1); ((with_reducible show wpAny _ _ (getMethod (Value.ref 48) _ _) _ _ _); refine gm_N (by assumption) (by assumption) ?_)
  k_with "getMethod ref" => (fail_if_success have := @offB1); ((with_reducible show wpAny _ _ (getMethod (Value.ref 53) _ _) _ _ _); refine gm_V (by assumption) (by assumption) ?_)
  k_with "call builtin:re.Pattern.search" => (fail_if_success have := @offB1); (refine se_N (by assumption) (by assumption) (by assumption) (by assumption) ?_)
  k_with "call builtin:re.Pattern.search" => (fail_if_success have := @offB1); (refine se_V (by assumption) (by assumption) (by assumption) (by assumption) ?_)
  trivial
section
variable {w : World} {A A₀ : Around} {E : Value → Shared → Prop} {s : Shared} {h₀ base : Heap} {env : Env} {outer : List Env} {L x : Addr} {m mg mb : Str → Option Value} {news : List (Addr × Obj)}
   {p : Program} {loose : List Str} {mean : ExcName → Option Value} {Q : Value → Shared → Prop} {nm : Str} {tk : Tok}
theorem conv_name (S : Sit w A A₀ base h₀ env outer L m p loose mean mg mb news s.heap 5)
   (hlen : nm.length ≤ 2 ^ 24) (hclean : ctlIn isCtlN nm.cps = false)
   (h : ∀ h' t', Fr h₀ L h' m → News h₀ L h' news → Q (.str nm tk) {s with heap := h', toks := t'}) :
   wpAny (model pg w) A (call (.ref 83) [.ref x, .str nm tk] [(Str.ofString "name", .bool true)]) Q E s := by
  obtain ⟨KX, T, B, F, N, hA, hf, hke, hroom, hh⟩ := S
  refine wpAny_call ?_
  k_enter
  k_steps
  exact h _ _ (by assumption) (by assumption)
theorem conv_val (S : Sit w A A₀ base h₀ env outer L m p loose mean mg mb news s.heap 5)
   (hlen : nm.length ≤ 2 ^ 24) (hclean : ctlIn isCtlV nm.cps = false)
   (h : ∀ h' t', Fr h₀ L h' m → News h₀ L h' news → Q (.str nm tk) {s with heap := h', toks := t'}) :
   wpAny (model pg w) A (call (.ref 83) [.ref x, .str nm tk] [(Str.ofString "name", .bool false)]) Q E s := by
  obtain ⟨KX, T, B, F, N, hA, hf, hke, hroom, hh⟩ := S
  refine wpAny_call ?_
  k_enter
  k_steps
  exact h _ _ (by assumption) (by assumption)
end
theorem offB1 : True := trivial
end
section
theorem kw4 : True := by
  w_top off
  trivial
theorem matched_of {h₀ h : Heap} {L D : Addr} {fs : Array Value} {news : List (Addr × Obj)} (N : News h₀ L h news) (hm : (D, matchObj fs) ∈ news) : h.get? D = some (matchObj fs) := (N _ hm).1
section
variable {w : World} {A : Around} {E : Value → Shared → Prop} {s : Shared} {h₀ : Heap} {L : Addr} {m : Str → Option Value} {news : List (Addr × Obj)}
theorem two_pushed {o o' : Obj} (F : Fr h₀ L s.heap m) (N : News h₀ L s.heap news) (he : o'.isFreed = false) : Fr h₀ L ((s.heap.push o).push o') m ∧ News h₀ L ((s.heap.push o).push o') ((s.heap.objs.size + 1, o') :: news) := by
  have F1 := F.push o
  have N1 : News h₀ L (s.heap.push o) news := news_keep N fun b o' e => Heap.get?_push_of_some _ e
  have e1 : (s.heap.push o).objs.size = s.heap.objs.size + 1 := Heap.size_push ..
  refine ⟨F1.push o', fun q hq => ?_⟩
  rcases List.mem_cons.mp hq with rfl | hq
  · refine ⟨?_, ?_, ?_⟩
    · show ((s.heap.push o).push o').get? (s.heap.objs.size + 1) = some o'
      rw [← e1]
      exact Heap.get?_push_size _ he
    · show s.heap.objs.size + 1 ≠ L
      rw [← e1]
      exact Nat.ne_of_gt F1.ns.lt
    · show h₀.get? (s.heap.objs.size + 1) = none
      rw [← e1]
      exact next_is_new F1
  · exact ⟨Heap.get?_push_of_some _ (N1 q hq).1, (N1 q hq).2⟩
theorem se_N1 {x : Str} {t : Tok} {Q : Value → Shared → Prop} (F : Fr h₀ L s.heap m) (N : News h₀ L s.heap news) (X : (hd.heap_39 w.params).In h₀) (hx : x.length ≤ 2 ^ 24) (hc : ctlIn isCtlN x.cps = true)
    (h : ∀ D fs h', Fr h₀ L h' m → News h₀ L h' ((D, matchObj fs) :: news) → Q (.ref D) { s with heap := h' }) :
    wpAny (model pg w) A (call (.builtin "re.Pattern.search") [.ref 48, .str x t]) Q E s := search_call (patN (X.keeps F.keep)) hx (outN _) (fun e => by rw [hc] at e; cases e) (fun _ vs fs => by
      obtain ⟨F1, N1⟩ := two_pushed (o := tupObj vs) (o' := matchObj fs) F N rfl
      exact h _ fs _ F1 N1)
theorem se_V1 {x : Str} {t : Tok} {Q : Value → Shared → Prop} (F : Fr h₀ L s.heap m) (N : News h₀ L s.heap news) (X : (hd.heap_39 w.params).In h₀) (hx : x.length ≤ 2 ^ 24) (hc : ctlIn isCtlV x.cps = true)
    (h : ∀ D fs h', Fr h₀ L h' m → News h₀ L h' ((D, matchObj fs) :: news) → Q (.ref D) { s with heap := h' }) :
    wpAny (model pg w) A (call (.builtin "re.Pattern.search") [.ref 53, .str x t]) Q E s := search_call (patV (X.keeps F.keep)) hx (outV _) (fun e => by rw [hc] at e; cases e) (fun _ vs fs => by
      obtain ⟨F1, N1⟩ := two_pushed (o := tupObj vs) (o' := matchObj fs) F N rfl
      exact h _ fs _ F1 N1)
end
theorem kw3 : True := by
  k_with "getMethod ref" => (fail_if_success have := @offB12); ((with_reducible show wpAny _ _ (getMethod (Value.ref 48) _ _) _ _ _); refine gm_N (by assumption) (by assumption) ?_)
  k_with "getMethod ref" => (fail_if_success have := @offB12); ((with_reducible show wpAny _ _ (getMethod (Value.ref 53) _ _) _ _ _); refine gm_V (by assumption) (by assumption) ?_)
  k_with "call builtin:re.Pattern.search" => (fail_if_success have := @offB12); (refine' se_N1 ?Fw55 ?Nw55 ?Xw55 ?h1w55 ?h2w55 ?_; (case Fw55 => k_asm); (case Nw55 => k_asm); (case Xw55 => k_asm); (case h1w55 => with_reducible assumption); (case h2w55 => with_reducible assumption); intro _ _ _ _ _)
  k_with "call builtin:re.Pattern.search" => (fail_if_success have := @offB12); (refine' se_V1 ?Fw56 ?Nw56 ?Xw56 ?h1w56 ?h2w56 ?_; (case Fw56 => k_asm); (case Nw56 => k_asm); (case Xw56 => k_asm); (case h1w56 => with_reducible assumption); (case h2w56 => with_reducible assumption); intro _ _ _ _ _)
  k_with "truthy ref" => (fail_if_success have := @offB12); (refine truthy_match (matched_of (by k_asm) (by k_mem)) ?_)
  k_with "call builtin:str.format" => (fail_if_success have := @offB12); (refine' got_format ?hyw58 ?_; (case hyw58 => with_reducible assumption); intro _ _)
  k_with "leaving ref" => (fail_if_success have := @offB12); (k_here; (refine' leave_raiseS ?k1w59 ?k0w59 ?k2w59 ?k3w59 ?_; (case k0w59 => first | assumption | exact Heap.MadeExc.of (by assumption)); (case k2w59 => assumption); (case k1w59 => assumption); (case k3w59 => k_asm); k_whole; intro _ _ S' R' U'; (try dsimp only at S' R' U' ⊢); (revert S' R' U'; intro _ _ _)))
  k_with "exec Raise some none" => (fail_if_success have := @offB12); ((with_reducible show wpAny _ _ (exec (Stmt.Raise (some (Expr.Call (Expr.Name (Str.ofString "ValueError") _) _ [] _)) none _) _) _ _ _); (refine' Raise_madeB PySem.F.excCall_ValueError PySem.F.excRaise_ValueError ?hhw60 ?_; (case hhw60 => first | with_reducible assumption | exact handled_deeper (by with_reducible assumption))); (refine' nameX_B ?Fw60 ?Xw60 ?Tw60 ?ew60 PyProof.Rows.Boot.«ValueError» ?nw60 ⟨rfl, ?_⟩; (case Fw60 => k_asm); (case Xw60 => k_asm); (case Tw60 => k_asm); (case ew60 => k_is); (case nw60 => decide); k_whole))
  k_with "exec Raise some none" => (fail_if_success have := @offB12); ((with_reducible show wpAny _ _ (exec (Stmt.Raise (some (Expr.Call (Expr.Name (Str.ofString "AssertionError") _) _ [] _)) none _) _) _ _ _); (refine' Raise_madeB PySem.F.excCall_AssertionError PySem.F.excRaise_AssertionError ?hhw61 ?_; (case hhw61 => first | with_reducible assumption | exact handled_deeper (by with_reducible assumption))); (refine' nameX_B ?Fw61 ?Xw61 ?Tw61 ?ew61 PyProof.Rows.Boot.«AssertionError» ?nw61 ⟨rfl, ?_⟩; (case Fw61 => k_asm); (case Xw61 => k_asm); (case Tw61 => k_asm); (case ew61 => k_is); (case nw61 => decide); k_whole))
  trivial
section
variable {w : World} {A A₀ : Around} {E : Value → Shared → Prop} {s : Shared} {h₀ base : Heap} {env : Env} {outer : List Env} {L x : Addr} {m mg mb : Str → Option Value} {news : List (Addr × Obj)}
   {p : Program} {loose : List Str} {mean : ExcName → Option Value} {Q : Value → Shared → Prop} {nm : Str} {tk : Tok}
theorem conv_name_bad (S : Sit w A A₀ base h₀ env outer L m p loose mean mg mb news s.heap 5)
   (hlen : nm.length ≤ 2 ^ 24) (hbad : ctlIn isCtlN nm.cps = true)
   (h : ∀ e t g h' t' news' tk', Fr h₀ L g m → RaisedS base g (env :: outer) e (.type "ValueError") t [.str (Str.ofString "Control characters not allowed in headers") tk'] news' h' → g.UpToSlots h' → (∀ q ∈ news, q ∈ news') → E (.ref e) {s with heap := h', toks := t'}) :
   wpAny (model pg w) A (call (.ref 83) [.ref x, .str nm tk] [(Str.ofString "name", .bool true)]) Q E s := by
  obtain ⟨KX, T, B, F, N, hA, hf, hke, hroom, hh⟩ := S
  refine wpAny_call ?_
  k_enter
  k_steps
  exact h _ _ _ _ _ _ _ (by assumption) (by assumption) (by assumption) (fun q hq => .tail _ hq)
theorem conv_val_bad (S : Sit w A A₀ base h₀ env outer L m p loose mean mg mb news s.heap 5)
   (hlen : nm.length ≤ 2 ^ 24) (hbad : ctlIn isCtlV nm.cps = true)
   (h : ∀ e t g h' t' news' tk', Fr h₀ L g m → RaisedS base g (env :: outer) e (.type "ValueError") t [.str (Str.ofString "Control characters not allowed in headers") tk'] news' h' → g.UpToSlots h' → (∀ q ∈ news, q ∈ news') → E (.ref e) {s with heap := h', toks := t'}) :
   wpAny (model pg w) A (call (.ref 83) [.ref x, .str nm tk] [(Str.ofString "name", .bool false)]) Q E s := by
  obtain ⟨KX, T, B, F, N, hA, hf, hke, hroom, hh⟩ := S
  refine wpAny_call ?_
  k_enter
  k_steps
  exact h _ _ _ _ _ _ _ (by assumption) (by assumption) (by assumption) (fun q hq => .tail _ hq)
theorem conv_int_bad {z : Int} {b : Bool} (S : Sit w A A₀ base h₀ env outer L m p loose mean mg mb news s.heap 5) (hz0 : 0 ≤ z) (hz1 : z < 12) (hy : (Str.ofString (toString z)).length ≤ 100000)
   (h : ∀ e t g h' t' news' tk', Fr h₀ L g m → RaisedS base g (env :: outer) e (.type "AssertionError") t [.str ((Str.ofString "Header names/values must be of type str (got " ++ Str.ofString (toString z)) ++ Str.ofString ")") tk'] news' h' → g.UpToSlots h' → (∀ q ∈ news, q ∈ news') → E (.ref e) {s with heap := h', toks := t'}) :
   wpAny (model pg w) A (call (.ref 83) [.ref x, .int z tk] [(Str.ofString "name", .bool b)]) Q E s := by
  obtain ⟨KX, T, B, F, N, hA, hf, hke, hroom, hh⟩ := S
  refine wpAny_call ?_
  k_enter
  k_steps
  exact h _ _ _ _ _ _ _ (by assumption) (by assumption) (by assumption) (fun q hq => by first | assumption | exact .tail _ hq)
end
theorem offB12 : True := trivial
end
section
theorem kw6 : True := by
  w_top off
  trivial
theorem kw5 : True := by
  k_with "getMethod ref" => (fail_if_success have := @offB13); ((with_reducible show wpAny _ _ (getMethod (Value.ref 48) _ _) _ _ _); refine gm_N (by assumption) (by assumption) ?_)
  k_with "getMethod ref" => (fail_if_success have := @offB13); ((with_reducible show wpAny _ _ (getMethod (Value.ref 53) _ _) _ _ _); refine gm_V (by assumption) (by assumption) ?_)
  k_with "call builtin:re.Pattern.search" => (fail_if_success have := @offB13); (refine' se_N1 ?Fw64 ?Nw64 ?Xw64 ?h1w64 ?h2w64 ?_; (case Fw64 => k_asm); (case Nw64 => k_asm); (case Xw64 => k_asm); (case h1w64 => with_reducible assumption); (case h2w64 => with_reducible assumption); intro _ _ _ _ _)
  k_with "call builtin:re.Pattern.search" => (fail_if_success have := @offB13); (refine' se_V1 ?Fw65 ?Nw65 ?Xw65 ?h1w65 ?h2w65 ?_; (case Fw65 => k_asm); (case Nw65 => k_asm); (case Xw65 => k_asm); (case h1w65 => with_reducible assumption); (case h2w65 => with_reducible assumption); intro _ _ _ _ _)
  k_with "truthy ref" => (fail_if_success have := @offB13); (refine truthy_match (matched_of (by k_asm) (by k_mem)) ?_)
  k_with "call builtin:str.format" => (fail_if_success have := @offB13); (refine' got_format ?hyw67 ?_; (case hyw67 => with_reducible assumption); intro _ _)
  k_with "leaving ref" => (fail_if_success have := @offB13); (k_here; (refine' leave_raiseS ?k1w68 ?k0w68 ?k2w68 ?k3w68 ?_; (case k0w68 => first | assumption | exact Heap.MadeExc.of (by assumption)); (case k2w68 => assumption); (case k1w68 => assumption); (case k3w68 => k_asm); k_whole; intro _ _ S' R' U'; (try dsimp only at S' R' U' ⊢); (revert S' R' U'; intro _ _ _)))
  k_with "exec Raise some none" => (fail_if_success have := @offB13); ((with_reducible show wpAny _ _ (exec (Stmt.Raise (some (Expr.Call (Expr.Name (Str.ofString "ValueError") _) _ [] _)) none _) _) _ _ _); (refine' Raise_madeB PySem.F.excCall_ValueError PySem.F.excRaise_ValueError ?hhw69 ?_; (case hhw69 => first | with_reducible assumption | exact handled_deeper (by with_reducible assumption))); (refine' nameX_B ?Fw69 ?Xw69 ?Tw69 ?ew69 PyProof.Rows.Boot.«ValueError» ?nw69 ⟨rfl, ?_⟩; (case Fw69 => k_asm); (case Xw69 => k_asm); (case Tw69 => k_asm); (case ew69 => k_is); (case nw69 => decide); k_whole))
  k_with "exec Raise some none" => (fail_if_success have := @offB13); ((with_reducible show wpAny _ _ (exec (Stmt.Raise (some (Expr.Call (Expr.Name (Str.ofString "AssertionError") _) _ [] _)) none _) _) _ _ _); (refine' Raise_madeB PySem.F.excCall_AssertionError PySem.F.excRaise_AssertionError ?hhw70 ?_; (case hhw70 => first | with_reducible assumption | exact handled_deeper (by with_reducible assumption))); (refine' nameX_B ?Fw70 ?Xw70 ?Tw70 ?ew70 PyProof.Rows.Boot.«AssertionError» ?nw70 ⟨rfl, ?_⟩; (case Fw70 => k_asm); (case Xw70 => k_asm); (case Tw70 => k_asm); (case ew70 => k_is); (case nw70 => decide); k_whole))
  trivial
section
variable {w : World} {A A₀ : Around} {E : Value → Shared → Prop} {s : Shared} {h₀ base : Heap} {env : Env} {outer : List Env} {L x : Addr} {m mg mb : Str → Option Value} {news : List (Addr × Obj)}
   {p : Program} {loose : List Str} {mean : ExcName → Option Value} {Q : Value → Shared → Prop} {nm : Str} {tk : Tok}
theorem conv_none_bad {b : Bool} (S : Sit w A A₀ base h₀ env outer L m p loose mean mg mb news s.heap 5)
   (h : ∀ e t g h' t' news' tk', Fr h₀ L g m → RaisedS base g (env :: outer) e (.type "AssertionError") t [.str ((Str.ofString "Header names/values must be of type str (got " ++ Str.ofString "None") ++ Str.ofString ")") tk'] news' h' → g.UpToSlots h' → (∀ q ∈ news, q ∈ news') → E (.ref e) {s with heap := h', toks := t'}) :
   wpAny (model pg w) A (call (.ref 83) [.ref x, .none] [(Str.ofString "name", .bool b)]) Q E s := by
  obtain ⟨KX, T, B, F, N, hA, hf, hke, hroom, hh⟩ := S
  have hy : (Str.ofString "None").length ≤ 100000 := by decide +kernel
  refine wpAny_call ?_
  k_enter
  k_steps
  exact h _ _ _ _ _ _ _ (by assumption) (by assumption) (by assumption) (fun q hq => by first | assumption | exact .tail _ hq)
/-- what may be handed in for a name or a value -/
def VOk (v : Value) : Prop := (∃ s t, v = .str s t ∧ s.length ≤ 1000) ∨ (∃ t, v = .int 7 t) ∨ v = .none
theorem VOk.len {s : Str} {t : Tok} (h : VOk (.str s t)) : s.length ≤ 1000 := by
  rcases h with ⟨s', t', e, h⟩ | ⟨t', e⟩ | e
  · cases e; exact h
  · cases e
  · cases e
def goodV (ctl : Nat → Bool) (v : Value) : Prop := ∃ s t, v = .str s t ∧ ctlIn ctl s.cps = false
def badV (ctl : Nat → Bool) (v : Value) : Prop := ∃ s t, v = .str s t ∧ ctlIn ctl s.cps = true
def badA (v : Value) : Prop := (∃ t, v = .int 7 t) ∨ v = .none
def ctlM : Str := Str.ofString "Control characters not allowed in headers"
def shown (v : Value) : Str := match v with
  | .int _ _ => Str.ofString "7"
  | _ => Str.ofString "None"
def errM (v : Value) : Str := (Str.ofString "Header names/values must be of type str (got " ++ shown v) ++ Str.ofString ")"
def ctlOf (b : Bool) : Nat → Bool := if b then isCtlN else isCtlV
theorem conv_any {b : Bool} {v : Value} (S : Sit w A A₀ base h₀ env outer L m p loose mean mg mb news s.heap 5) (hv : VOk v)
   (ok : goodV (ctlOf b) v → ∀ h' t', Fr h₀ L h' m → News h₀ L h' news → Q v {s with heap := h', toks := t'})
   (bv : badV (ctlOf b) v → ∀ e t g h' t' news' tk', Fr h₀ L g m → RaisedS base g (env :: outer) e (.type "ValueError") t [.str ctlM tk'] news' h' → g.UpToSlots h' → (∀ q ∈ news, q ∈ news') → E (.ref e) {s with heap := h', toks := t'})
   (ba : badA v → ∀ e t g h' t' news' tk', Fr h₀ L g m → RaisedS base g (env :: outer) e (.type "AssertionError") t [.str (errM v) tk'] news' h' → g.UpToSlots h' → (∀ q ∈ news, q ∈ news') → E (.ref e) {s with heap := h', toks := t'}) :
   wpAny (model pg w) A (call (.ref 83) [.ref x, v] [(Str.ofString "name", .bool b)]) Q E s := by
  rcases hv with ⟨s, t, rfl, hl⟩ | ⟨t, rfl⟩ | rfl
  · cases b with
    | true =>
      cases hc : ctlIn isCtlN s.cps with
      | false => exact conv_name S (by omega) hc (ok ⟨s, t, rfl, hc⟩)
      | true => exact conv_name_bad S (by omega) hc (bv ⟨s, t, rfl, hc⟩)
    | false =>
      cases hc : ctlIn isCtlV s.cps with
      | false => exact conv_val S (by omega) hc (ok ⟨s, t, rfl, hc⟩)
      | true => exact conv_val_bad S (by omega) hc (bv ⟨s, t, rfl, hc⟩)
  · exact conv_int_bad S (by decide) (by decide) (by decide +kernel) (ba (.inl ⟨t, rfl⟩))
  · exact conv_none_bad S (ba (.inr rfl))
theorem conv_any_n {v : Value} (S : Sit w A A₀ base h₀ env outer L m p loose mean mg mb news s.heap 5) (hv : VOk v)
   (ok : ∀ h' t', Fr h₀ L h' m → News h₀ L h' news → ∀ nm tn, v = .str nm tn → ctlIn (ctlOf true) nm.cps = false → nm.length ≤ 1000 → Q v {s with heap := h', toks := t'})
   (bv : badV (ctlOf true) v → ∀ e t g h' t' news' tk', Fr h₀ L g m → RaisedS base g (env :: outer) e (.type "ValueError") t [.str ctlM tk'] news' h' → g.UpToSlots h' → (∀ q ∈ news, q ∈ news') → E (.ref e) {s with heap := h', toks := t'})
   (ba : badA v → ∀ e t g h' t' news' tk', Fr h₀ L g m → RaisedS base g (env :: outer) e (.type "AssertionError") t [.str (errM v) tk'] news' h' → g.UpToSlots h' → (∀ q ∈ news, q ∈ news') → E (.ref e) {s with heap := h', toks := t'}) :
   wpAny (model pg w) A (call (.ref 83) [.ref x, v] [(Str.ofString "name", Value.bool true)]) Q E s :=
  conv_any S hv (fun ⟨nm, tn, e, hc⟩ h' t' F N => ok h' t' F N nm tn e hc (by subst e; exact hv.len)) bv ba
end
theorem offB13 : True := trivial
end
section

section
theorem kw7 : True := by
  w_top off
  k_with_none
  k_with "k_room" => first | ((try simp only [depth_under_make, depth_under_kw, depth_in1, depth_deeper, depth_caller]); omega) | decide
  k_with "code_def" => (refine' code_def ?k1w2 ?k2w2 ?k3w2 ?k4w2 ?k5w2 ?kAw2 ?kFw2 ?kKw2 ?k6w2 ?k7w2 ?k8w2 ?k9w2 ?kBw2 ?_ ?c2w2 ?c3w2 ?c4w2 ?c5w2; (case k1w2 => k_asm); (case k2w2 => k_asm); (case k3w2 => k_asm); (case k4w2 => k_asm); (case k5w2 => k_asm); (case kAw2 => assumption); (case kFw2 => assumption); (case kKw2 => assumption);  (case k6w2 => k_is); (case k7w2 => k_is); (case k8w2 => k_room); (case k9w2 => first | exact BindsTo.of_eq rfl | exact binds_K (by k_in) rfl (by k_is) rfl rfl rfl | fail "k_enter: no rule for these arguments"); (case c5w2 => decide); (case kBw2 => exact locs rfl); (case c2w2 => exact rfl); (case c3w2 => exact rfl); (case c4w2 => exact rfl))
  k_with "code_defC" => (refine' code_defC ?k1w3 ?k2w3 ?k3w3 ?k4w3 ?k5w3 ?kAw3 ?kFw3 ?kKw3 ?k6w3 ?k7w3 ?k8w3 ?k9w3 ?kBw3 ?kDw3 ?_ ?c2w3 ?c3w3 ?c4w3; (case k1w3 => k_asm); (case k2w3 => k_asm); (case k3w3 => k_asm); (case k4w3 => k_asm); (case k5w3 => k_asm); (case kAw3 => assumption); (case kFw3 => assumption); (case kKw3 => assumption); (case k6w3 => k_is); (case k7w3 => k_is); (case k8w3 => k_room); (case k9w3 => first | exact BindsTo.of_eq rfl | exact binds_K (by k_in) rfl (by k_is) rfl rfl rfl | fail "k_enter: no rule for these arguments"); (case kBw3 => exact rfl); (case kDw3 => decide +kernel); (case c2w3 => exact rfl); (case c3w3 => exact rfl); (case c4w3 => exact rfl))
  k_with "k_mem" => first | assumption | exact List.Mem.head _ | (refine' List.Mem.tail _ ?_; k_mem)
  k_with "k_all" => exact all_ne_of_lt (by assumption) (by first | exact Nat.le_refl _ | exact Nat.le_succ _ | omega)
  k_with "call builtin:str.lower" => (refine PyProof.Rows.SCL.lower (by omega) ?_; intro _)
  k_with "eval ListComp" => refine hold_intro ?_
  k_with "eval Slice none none none" => (refine slice_K (by assumption) (by assumption) ?_; intro _ _ _ _; (try k_sweep))
  k_with "setItem ref ref ref" => refine hold_intro ?_
  k_with "exec Assign cons ListComp" => ((with_reducible show wpAny _ _ (exec (Stmt.Assign [Expr.Subscript _ _ _] _ _) _) _ _ _); refine wpAny_Assign_Subscript ?_)
  k_with "call builtin:len" => (refine' len_L ?Nw11 ?hlw11 ?hsw11 ?_; (case Nw11 => k_asm); (case hlw11 => k_mem); (case hsw11 => omega); intro _ _)
  k_with "subscriptTail Name Slice ref ref" => ((with_reducible show wpAny _ _ (subscriptTail _ _ (Value.ref _) (Value.ref _)) _ _ _); refine' copy_L ?Fw12 ?Nw12 ?hlw12 ?hsw12 ?hzw12 ?_ ?hew12; (case Fw12 => k_asm); (case Nw12 => k_asm); (case hlw12 => k_mem); (case hsw12 => exact List.Mem.head _); (case hzw12 => rw [sizeLine_eq]; omega); (case hew12 => with_unfolding_all rfl); intro _ _ _ _ _; (try k_sweep))
  k_with "kp_more" => (refine' kp_more ?k1w13 ?k2w13 ?k3w13 ?k4w13 ?k5w13 ?kAw13 ?kFw13 ?kKw13 ?k6w13 ?k7w13 ?k8w13 ?kXw13 ?kMw13 ?kNw13 ?kDw13 ?kRw13 ?kPw13 ?kTw13 ?kBw13 ?_ ?c2w13 ?c3w13 ?c4w13 ?c5w13; (case kAw13 => assumption); (case kFw13 => assumption); (case kKw13 => assumption); (case k1w13 => k_asm); (case k2w13 => k_asm); (case k3w13 => k_asm); (case k4w13 => k_asm); (case k5w13 => k_asm); (case k6w13 => k_is); (case k7w13 => k_is); (case k8w13 => k_room); (case kXw13 => kp_lit); (case kMw13 => exact rfl); (case kNw13 => exact rfl); (case kDw13 => kp_flats); (case kRw13 => exact rfl); (case kPw13 => exact rfl); (case kTw13 => exact fun _ => rfl); (case kBw13 => exact fun _ => locs rfl); (case c5w13 => decide); (case c2w13 => exact rfl); (case c3w13 => exact rfl); (case c4w13 => exact rfl))
  k_with "exec For Tuple Name" => refine hold_intro ?_
  k_with "exec For Tuple Call" => refine hold_intro ?_
  k_with "exec For Tuple Call cons nil" => refine hold_intro ?_
  k_with "exec For Tuple Name cons nil" => refine hold_intro ?_
  k_with "call builtin:list.append" => (refine' append_L ?Fw18 ?Nw18 ?hlw18 ?_ ?hzw18; (case Fw18 => k_asm); (case Nw18 => k_asm); (case hlw18 => k_mem); (case hzw18 => (rw [sizeLine_eq]; omega)); intro _ _ _)
  k_with "execs cons" => ((with_reducible show wpAny _ _ (execs [_] _) _ _ _); refine execs_one ?_)
  k_with "k_room" => first | exact room0 (by with_reducible assumption) (by decide) | exact room1 (by with_reducible assumption) rfl (by decide) | exact room2 (by with_reducible assumption) rfl (by decide)
  k_with "storeName" => ((with_reducible show wpAny _ _ (storeName _ _ _) _ _ _); dsimp only)
  k_with "newList" => ((with_reducible show wpAny _ _ (newList _) _ _ _); dsimp only)
  k_with "newTuple" => ((with_reducible show wpAny _ _ (newTuple _) _ _ _); dsimp only)
  k_with "getMethod ref" => ((with_reducible show wpAny _ _ (getMethod (Value.ref _) (PySem.Str.ofString "append") _) _ _ _); (refine' listMethod_K ?Nw24 ?mw24 PySem.F.slot_list_append PySem.F.type_list_append ?_; (case Nw24 => k_asm); (case mw24 => k_mem)))
  k_with "callWith ref" => ((with_reducible show wpAny _ _ (callWith _ _ _ _ (backToKw _ _)) _ _ _); k_dflt (refine' callWith_KW ?k1w25 ?k2w25 ?k3w25 ?_; (case k1w25 => k_asm); (case k2w25 => k_is); (case k3w25 => exact rfl); k_whole))
  k_with "mk_sit" => (refine' Sit.mk ?KXw26 ?Tw26 ?Bw26 ?Fw26 ?Nw26 ?hAw26 ?hfw26 ?hkew26 ?hroomw26 ?hhw26; (case KXw26 => k_asm); (case Tw26 => k_asm); (case Bw26 => k_asm); (case Fw26 => k_asm); (case Nw26 => k_asm); (case hAw26 => first | with_reducible assumption | exact Around.frames_deeper (Below.stack (by with_reducible assumption)) | rfl); (case hfw26 => first | with_reducible assumption | rfl); (case hkew26 => first | with_reducible assumption | rfl); (case hroomw26 => k_room); (case hhw26 => first | with_reducible assumption | exact handled_deeper (by with_reducible assumption) | assumption | rfl))
  k_with "call ref" => ((with_reducible show wpAny _ _ (call (Value.ref 83) [_, Value.str _ _] (List.zip _ [Value.bool true])) _ _ _); k_dflt (refine' conv_name ?Sw27 ?kaw27 ?kbw27 ?_; (case Sw27 => walk_at "mk_sit"); (case kaw27 => k_asm); (case kbw27 => k_asm); k_whole); intro _ _ _ _)
  k_with "call ref" => ((with_reducible show wpAny _ _ (call (Value.ref 83) [_, Value.str _ _] (List.zip _ [Value.bool false])) _ _ _); k_dflt (refine' conv_val ?Sw28 ?kaw28 ?kbw28 ?_; (case Sw28 => walk_at "mk_sit"); (case kaw28 => k_asm); (case kbw28 => k_asm); k_whole); intro _ _ _ _)
  trivial
section
variable {w : World} {A A₀ : Around} {E : Value → Shared → Prop} {s : Shared} {h₀ base : Heap} {env : Env} {outer : List Env} {L x l : Addr} {m mg mb : Str → Option Value} {news : List (Addr × Obj)}
   {p : Program} {loose : List Str} {mean : ExcName → Option Value} {Q : Value → Shared → Prop} {nm : Str} {tk : Tok} {its : Array Value} {n : Nat} {ps : List (Str × Value)}
theorem del_spec (S : Sit w A A₀ base h₀ env outer L m p loose mean mg mb news s.heap 10) (hT : Tab w news x l) (hl : (l, listOf its n) ∈ news) (hsz : its.size ≤ 1000) (P : PairsN news its.toList ps)
   (hsm : nm.length ≤ 1000) (hclean : ctlIn isCtlN (Txt.lower nm).cps = false)
   (h : ∀ h' t' ys n', Fr h₀ L h' m → News h₀ L h' (upd l (listOf ys n') news) → PairsN (upd l (listOf ys n') news) ys.toList (ps.filter fun q => !(Txt.lower q.1 == Txt.lower nm)) → ys.size ≤ its.size → Q .none {s with heap := h', toks := t'}) :
   wpAny (model pg w) A (call (.ref 102) [.ref x, .str nm tk]) Q E s := by
  obtain ⟨KX, T, B, F, N, hA, hf, hke, hroom, hh⟩ := S
  obtain ⟨d, tl, hx, hdd⟩ := hT.at_
  have hlen : (Txt.lower nm).length ≤ 2 ^ 24 := by have := len_lower nm; omega
  refine wpAny_call ?_
  k_enter
  k_steps
  refine hold_elim ?_
  refine' ListComp_del (l := l) (its := its) (n := n) (ps := ps) (key := Txt.lower nm) ?hh ?F ?N ?hl ?hsz P ?hn0 ?hcn ?hoc ?hclos ?hcell ?hkind ?hnames ?hx ?hk ?hv ?hn ?hcl ?hcall ?hs ?hiter ?hQ
  case F => k_asm
  case N => k_asm
  case hl => k_mem
  case hsz => exact Nat.le_trans hsz (by decide)
  case hclos => with_unfolding_all rfl
  case hcell => decide
  case hkind => rfl
  case hnames => decide
  case hx => rfl
  case hk => exact fun _ => rfl
  case hv => exact fun _ => rfl
  case hn => exact fun _ => rfl
  case hcl => rfl
  case hcall => exact fun _ => rfl
  case hs => exact fun _ => rfl
  case hh => exact hh
  case hn0 => exact fun p hp => List.mem_cons_of_mem _ hp
  case hcn => exact List.mem_cons_self
  case hoc => assumption
  case hiter =>
    intro Q' hQ'
    k_steps
    exact hQ' _
  case hQ =>
    intro D h' tk k ys F' N' hne P' hsz'
    k_steps
    refine hold_elim ?_
    refine' setAll_L (l := l) (D := D) ?F ?N ?hl ?hD ?hs ?hlD ?hsz ?h
    case F => k_asm
    case N => k_asm
    case hl => k_mem
    case hD => k_mem
    case hs => exact ⟨_, (News.get (by assumption) (List.mem_cons_self)), rfl, rfl⟩
    case hlD => exact hne _ (List.mem_cons_of_mem _ hl)
    case hsz => rw [sizeLine_eq]; omega
    case h =>
      intro h' n' F' N'
      k_steps
      refine h _ _ ys n' (by assumption) (news_mono (by assumption) fun p hp => upd_cons (upd_cons (upd_cons hp))) (P'.upd N hl (by show Value.type "list" ≠ Value.type "tuple"; decide)) hsz'
end
end
section
theorem kw8 : True := by
  w_top off
  trivial
section
variable {w : World} {A A₀ : Around} {E : Value → Shared → Prop} {s : Shared} {h₀ base : Heap} {env : Env} {outer : List Env} {L x l : Addr} {m mg mb : Str → Option Value} {news : List (Addr × Obj)}
   {p : Program} {loose : List Str} {mean : ExcName → Option Value} {Q : Value → Shared → Prop} {nm : Str} {tk : Tok} {its : Array Value} {n : Nat} {ps : List (Str × Value)}
theorem len_spec (S : Sit w A A₀ base h₀ env outer L m p loose mean mg mb news s.heap 10) (hT : Tab w news x l) (hl : (l, listOf its n) ∈ news) (hsz : its.size ≤ 1000)
   (h : ∀ h' t' tk, Fr h₀ L h' m → News h₀ L h' news → Q (.int its.size tk) {s with heap := h', toks := t'}) :
   wpAny (model pg w) A (call (.builtin "len") [.ref x]) Q E s := by
  obtain ⟨KX, T, B, F, N, hA, hf, hke, hroom, hh⟩ := S
  obtain ⟨d, tl, hx, hdd⟩ := hT.at_
  k_steps
  exact h _ _ _ (by assumption) (by assumption)
theorem items_spec (S : Sit w A A₀ base h₀ env outer L m p loose mean mg mb news s.heap 10) (hT : Tab w news x l) (hl : (l, listOf its n) ∈ news) (hsz : its.size ≤ 1000)
   (h : ∀ D h' t', Fr h₀ L h' m → News h₀ L h' ((D, listOf its 0) :: news) → (∀ p ∈ news, p.1 < D) → Q (.ref D) {s with heap := h', toks := t'}) :
   wpAny (model pg w) A (call (.ref 148) [.ref x]) Q E s := by
  obtain ⟨KX, T, B, F, N, hA, hf, hke, hroom, hh⟩ := S
  obtain ⟨d, tl, hx, hdd⟩ := hT.at_
  refine wpAny_call ?_
  k_enter
  k_steps
  exact h _ _ _ (by assumption) (news_mono (by assumption) fun q hq => (List.mem_cons.mp hq).elim (fun e => List.mem_cons.mpr (.inl e)) fun e => .tail _ (.tail _ e)) (fun q hq => (by assumption : ∀ q ∈ (_, sliceAll) :: news, q.1 < _) q (.tail _ hq))
end
end
section
theorem kw9 : True := by
  w_top off
  trivial
section
variable {w : World} {A A₀ : Around} {E : Value → Shared → Prop} {s : Shared} {h₀ base : Heap} {env : Env} {outer : List Env} {L x l : Addr} {m mg mb : Str → Option Value} {news : List (Addr × Obj)}
   {p : Program} {loose : List Str} {mean : ExcName → Option Value} {Q : Value → Shared → Prop} {nm : Str} {tk : Tok} {its : Array Value} {n : Nat} {ps : List (Str × Value)}
end
end
section
theorem kw10 : True := by
  w_top off
  trivial
/-- the table x over the list l, which holds the pairs ps -/
structure Box (w : World) (news : List (Addr × Obj)) (x l d : Addr) (tl : Tok) (its : Array Value) (n : Nat) (ps : List (Str × Value)) : Prop where
  hx : (x, instObj 184 d) ∈ news
  hd : (d, dictOf [⟨PyData.keyHash w.params (Str.ofString "_headers"), .str (Str.ofString "_headers") tl, .ref l⟩] 1) ∈ news
  hl : (l, listOf its n) ∈ news
  P : PairsN news its.toList ps
  small : ps.length ≤ 1000
section
variable {w : World} {A A₀ : Around} {E : Value → Shared → Prop} {s : Shared} {h₀ h base : Heap} {env : Env} {outer : List Env} {L x l t d : Addr} {tl : Tok} {m mg mb : Str → Option Value} {news news' : List (Addr × Obj)}
   {p : Program} {loose : List Str} {mean : ExcName → Option Value} {Q : Value → Shared → Prop} {nm : Str} {tk : Tok} {its : Array Value} {n : Nat} {ps : List (Str × Value)}
theorem Box.tab (B : Box w news x l d tl its n ps) : Tab w news x l := ⟨_, _, B.hx, B.hd⟩
theorem Box.size (B : Box w news x l d tl its n ps) : its.size = ps.length := by
  have := B.P.length
  rw [Array.length_toList] at this
  exact this
theorem Box.small' (B : Box w news x l d tl its n ps) : its.size ≤ 1000 := B.size ▸ B.small
theorem Box.mono (B : Box w news x l d tl its n ps) (k : ∀ p ∈ news, p ∈ news') : Box w news' x l d tl its n ps := ⟨k _ B.hx, k _ B.hd, k _ B.hl, B.P.mono k, B.small⟩
theorem Box.tail {e : Addr × Obj} (B : Box w news x l d tl its n ps) : Box w (e :: news) x l d tl its n ps := B.mono fun _ h => .tail _ h
theorem Box.kept {a : Array Value} {b : Nat} (B : Box w news x l d tl its n ps) (N : News h₀ L h news) (ht : (t, listOf a b) ∈ news) (hne : l ≠ t) (K : Kept t news news') : Box w news' x l d tl its n ps := by
  refine ⟨K _ B.hx (news_ne N B.hx ht ?_), K _ B.hd (news_ne N B.hd ht ?_), K _ B.hl hne, ?_, B.small⟩
  · show Value.ref 184 ≠ Value.type "list"; decide
  · show Value.type "dict" ≠ Value.type "list"; decide
  · exact Paired.imp B.P fun v q ⟨t', tk, e, hm, hs⟩ => ⟨t', tk, e, K _ hm (news_ne N hm ht (by show Value.type "tuple" ≠ Value.type "list"; decide)), hs⟩
theorem Box.noIter (B : Box w news x l d tl its n ps) (k : ∀ p ∈ news, isIter p.2 = false → p ∈ news') : Box w news' x l d tl its n ps := by
  refine ⟨k _ B.hx ?_, k _ B.hd ?_, k _ B.hl ?_, ?_, B.small⟩
  · rfl
  · show iterNames.contains "dict" = false; decide
  · show iterNames.contains "list" = false; decide
  · exact Paired.imp B.P fun v q ⟨t', tk, e, hm, hs⟩ => ⟨t', tk, e, k _ hm (by show iterNames.contains "tuple" = false; decide), hs⟩
theorem Box.upd_self {ys : Array Value} {n' : Nat} {ps' : List (Str × Value)} (B : Box w news x l d tl its n ps) (N : News h₀ L h news) (P : PairsN (upd l (listOf ys n') news) ys.toList ps') (hs : ps'.length ≤ 1000) : Box w (upd l (listOf ys n') news) x l d tl ys n' ps' := by
  refine ⟨mem_upd B.hx (news_ne N B.hx B.hl ?_), mem_upd B.hd (news_ne N B.hd B.hl ?_), mem_upd_self B.hl, P, hs⟩
  · show Value.ref 184 ≠ Value.type "list"; decide
  · show Value.type "dict" ≠ Value.type "list"; decide
theorem box_del (S : Sit w A A₀ base h₀ env outer L m p loose mean mg mb news s.heap 10) (B : Box w news x l d tl its n ps) (hsm : nm.length ≤ 1000) (hclean : ctlIn isCtlN (Txt.lower nm).cps = false)
   (h : ∀ h' t' news' its' n', Fr h₀ L h' m → News h₀ L h' news' → Kept l news news' → Box w news' x l d tl its' n' (ps.filter fun q => !(Txt.lower q.1 == Txt.lower nm)) → Q .none {s with heap := h', toks := t'}) :
   wpAny (model pg w) A (call (.ref 102) [.ref x, .str nm tk]) Q E s :=
  del_spec S B.tab B.hl B.small' B.P hsm hclean fun h' t' ys n' F' N' P' _ => h h' t' _ ys n' F' N' Kept.upd (B.upd_self S.N P' (Nat.le_trans (List.length_filter_le _ _) B.small))
theorem box_append {v : Value} {ta : Addr} {ta' : Tok} (F : Fr h₀ L s.heap m) (N : News h₀ L s.heap news) (B : Box w news x l d tl its n ps) (ht : (ta, pairObj nm ta' v) ∈ news) (hsm : nm.length ≤ 1000) (hs : ps.length < 1000)
   (h : ∀ h' news', Fr h₀ L h' m → News h₀ L h' news' → Kept l news news' → Box w news' x l d tl (its.push (.ref ta)) (n + 1) (ps ++ [(nm, v)]) → Q .none {s with heap := h'}) :
   wpAny (model pg w) A (call (.builtin "list.append") [.ref l, .ref ta]) Q E s := by
  refine append_L F N B.hl (fun h' F' N' => h h' _ F' N' Kept.upd (B.upd_self N ?_ (by rw [List.length_append]; exact hs))) (by rw [sizeLine_eq]; have := B.small'; omega)
  have P := (B.P.upd (o' := listOf (its.push (.ref ta)) (n + 1)) N B.hl (by show Value.type "list" ≠ Value.type "tuple"; decide)).snoc (mem_upd ht (news_ne N ht B.hl (by show Value.type "tuple" ≠ Value.type "list"; decide))) hsm
  rw [Array.toList_push]
  exact P
theorem box_len (S : Sit w A A₀ base h₀ env outer L m p loose mean mg mb news s.heap 10) (B : Box w news x l d tl its n ps)
   (h : ∀ h' t' tk, Fr h₀ L h' m → News h₀ L h' news → Q (.int ps.length tk) {s with heap := h', toks := t'}) :
   wpAny (model pg w) A (call (.builtin "len") [.ref x]) Q E s :=
  len_spec S B.tab B.hl B.small' fun h' t' tk F N => B.size ▸ h h' t' tk F N
theorem box_items (S : Sit w A A₀ base h₀ env outer L m p loose mean mg mb news s.heap 10) (B : Box w news x l d tl its n ps)
   (h : ∀ D h' t', Fr h₀ L h' m → News h₀ L h' ((D, listOf its 0) :: news) → (∀ q ∈ news, q.1 < D) → Q (.ref D) {s with heap := h', toks := t'}) :
   wpAny (model pg w) A (call (.ref 148) [.ref x]) Q E s := items_spec S B.tab B.hl B.small' h
theorem box_tell {a : Array Value} {b : Nat} {v : Value} (F : Fr h₀ L s.heap m) (N : News h₀ L s.heap news) (B : Box w news x l d tl its n ps) (ht : (t, listOf a b) ∈ news) (hne : l ≠ t) (hsz : a.size ≤ 1000)
   (h : ∀ h' news', Fr h₀ L h' m → News h₀ L h' news' → Kept t news news' → (t, listOf (a.push v) (b + 1)) ∈ news' → Box w news' x l d tl its n ps → Q .none {s with heap := h'}) :
   wpAny (model pg w) A (call (.builtin "list.append") [.ref t, v]) Q E s :=
  append_K F N ht (by rw [sizeLine_eq]; omega) fun h' n' F' N' K' M' => h h' n' F' N' K' M' (B.kept N ht hne K')
end
section
variable {w : World} {A : Around} {E : Value → Shared → Prop} {s : Shared} {h₀ : Heap} {env : Env} {x l t d ln : Addr} {tl : Tok} {m : Str → Option Value} {news : List (Addr × Obj)} {its nits a₀ : Array Value} {n nn k₀ : Nat} {ps : List (Str × Value)} {ts : List Int} {target : Expr} {body : List Stmt} {Q : Flow → Shared → Prop}
end
def cut (ps : List (Str × Value)) (a : Str) : List (Str × Value) := ps.filter fun q => !(Txt.lower q.1 == a)
def cnt (ps : List (Str × Value)) (a : Str) : Nat := (ps.filter fun q => Txt.lower q.1 == a).length
def lossRow (c : Nat → Int) (k j : Nat) : List Int := (List.range j).map fun i => c i + c k
theorem cnt_cut {ps : List (Str × Value)} {a b : Str} (h : b ≠ a) : cnt (cut ps a) b = cnt ps b := by
  unfold cut cnt
  rw [List.filter_filter]
  congr 1
  apply List.filter_congr
  intro q _
  cases e : (Txt.lower q.1 == b)
  · simp
  · have e2 := eq_of_beq e
    have : (Txt.lower q.1 == a) = false := by rw [e2]; exact beq_eq_false_iff_ne.mpr h
    simp [this]
theorem cnt_cut_self {ps : List (Str × Value)} {a : Str} : cnt (cut ps a) a = 0 := by
  unfold cut cnt
  rw [List.filter_filter, List.length_eq_zero_iff, List.filter_eq_nil_iff]
  intro q _
  cases (Txt.lower q.1 == a) <;> simp
theorem cnt_append (a b : List (Str × Value)) (c : Str) : cnt (a ++ b) c = cnt a c + cnt b c := by simp [cnt]
theorem cnt_all {rs : List (Str × Value)} {a : Str} (h : ∀ q ∈ rs, Txt.lower q.1 = a) : cnt rs a = rs.length := by
  unfold cnt
  rw [List.filter_eq_self.mpr (fun q hq => by rw [h q hq]; exact beq_self_eq_true a)]
theorem cnt_other {rs : List (Str × Value)} {a b : Str} (h : ∀ q ∈ rs, Txt.lower q.1 = a) (hne : b ≠ a) : cnt rs b = 0 := by
  unfold cnt
  rw [List.length_eq_zero_iff, List.filter_eq_nil_iff]
  intro q hq e
  exact hne ((eq_of_beq e).symm.trans (h q hq))
end
section
theorem kw11 : True := by
  w_top off
  trivial
/-- one of the 33 signs -/
def SignOk (sg : Str) : Prop := ∃ c : Nat, (c < 32 ∨ c = 127) ∧ sg = ⟨#[c]⟩
def namesL : List Str := [Str.ofString "a", Str.ofString "A", Str.ofString "b", Str.ofString "B", Str.ofString "", Str.ofString "a-b"]
/-- the value at a place of the texts -/
def TextAt (sg : Str) (z : Int) (v : Value) : Prop :=
  (z = 0 ∧ ∃ t, v = .str (Str.ofString "x") t) ∨ (z = 1 ∧ ∃ t, v = .str (Str.ofString "") t) ∨ (z = 2 ∧ ∃ t, v = .str (Str.ofString "x\ty") t) ∨ (z = 3 ∧ ∃ t, v = .str (Str.ofString "A") t) ∨
  (z = 4 ∧ ∃ t, v = .str (Str.ofString "x" ++ sg) t) ∨ (z = 5 ∧ ∃ t, v = .int 7 t) ∨ (z = 6 ∧ v = .none) ∨ (z = 7 ∧ ∃ t, v = .str (sg ++ Str.ofString "x") t)
theorem sign_len {sg : Str} (h : SignOk sg) : sg.length = 1 := by
  obtain ⟨c, -, rfl⟩ := h
  rfl
theorem app_len1 {a b : Str} (ha : a.length ≤ 10) (hb : b.length = 1) : (a ++ b).length ≤ 1000 := by
  rw [PySem.Str.length_append]; omega
theorem app_len2 {a b : Str} (ha : a.length = 1) (hb : b.length ≤ 10) : (a ++ b).length ≤ 1000 := by
  rw [PySem.Str.length_append]; omega
theorem TextAt.vok {sg : Str} {z : Int} {v : Value} (hs : SignOk sg) (h : TextAt sg z v) : VOk v := by
  have h1 := sign_len hs
  rcases h with ⟨-, t, rfl⟩ | ⟨-, t, rfl⟩ | ⟨-, t, rfl⟩ | ⟨-, t, rfl⟩ | ⟨-, t, rfl⟩ | ⟨-, t, rfl⟩ | ⟨-, rfl⟩ | ⟨-, t, rfl⟩
  · exact .inl ⟨_, _, rfl, by decide +kernel⟩
  · exact .inl ⟨_, _, rfl, by decide +kernel⟩
  · exact .inl ⟨_, _, rfl, by decide +kernel⟩
  · exact .inl ⟨_, _, rfl, by decide +kernel⟩
  · exact .inl ⟨_, _, rfl, app_len1 (by decide +kernel) h1⟩
  · exact .inr (.inl ⟨_, rfl⟩)
  · exact .inr (.inr rfl)
  · exact .inl ⟨_, _, rfl, app_len2 h1 (by decide +kernel)⟩
/-- a name without a control sign, at its place -/
def NameG (z : Int) (nm : Str) : Prop := namesL[z.toNat]? = some nm
theorem NameG.mem {z : Int} {nm : Str} (h : NameG z nm) : nm ∈ namesL := List.mem_of_getElem? h
theorem NameG.facts {z : Int} {nm : Str} (h : NameG z nm) : nm.length ≤ 1000 ∧ ctlIn isCtlN nm.cps = false ∧ ctlIn isCtlN (Txt.lower nm).cps = false := by
  have := h.mem
  simp only [namesL, List.mem_cons, List.not_mem_nil, or_false] at this
  rcases this with rfl | rfl | rfl | rfl | rfl | rfl <;> decide +kernel
section
variable {prog : Program} {w : World} {A : Around} {E : Value → Shared → Prop} {s : Shared} {h₀ : Heap} {L : Addr} {m : Str → Option Value} {news : List (Addr × Obj)}
theorem text_pick {D : Addr} {sg : Str} {t0 t1 t2 t3 t4 t5 t7 : Tok} {k : Nat} {z : Int} {u : Tok} {value slice : Expr} {Q : Value → Shared → Prop} (N : News h₀ L s.heap news) (hl : (D, listOf #[.str (Str.ofString "x") t0, .str (Str.ofString "") t1, .str (Str.ofString "x\ty") t2, .str (Str.ofString "A") t3, .str (Str.ofString "x" ++ sg) t4, .int 7 t5, .none, .str (sg ++ Str.ofString "x") t7] k) ∈ news)
    (hz : 0 ≤ z ∧ z < 8) (hsg : SignOk sg) (h : ∀ v, TextAt sg z v → VOk v → Q v s)
    (hs : subscripted slice false (.ref D) (.int z u) = operate [.ref D, .int z u] (getItem (.ref D) (.int z u)) := by with_unfolding_all rfl) (hg : ∀ r, letTemporaryGo value (.ref D) r = pure () := by intro _; with_unfolding_all rfl) :
    wpAny (model prog w) A (subscriptTail value slice (.ref D) (.int z u)) Q E s := by
  have hk : z = 0 ∨ z = 1 ∨ z = 2 ∨ z = 3 ∨ z = 4 ∨ z = 5 ∨ z = 6 ∨ z = 7 := zlt8 (by first | with_reducible assumption | omega)
  have key : ∃ v, ([Value.str (Str.ofString "x") t0, .str (Str.ofString "") t1, .str (Str.ofString "x\ty") t2, .str (Str.ofString "A") t3, .str (Str.ofString "x" ++ sg) t4, .int 7 t5, .none, .str (sg ++ Str.ofString "x") t7] : List Value)[z.toNat]? = some v ∧ TextAt sg z v := by
    rcases hk with rfl | rfl | rfl | rfl | rfl | rfl | rfl | rfl
    · exact ⟨_, rfl, .inl ⟨rfl, _, rfl⟩⟩
    · exact ⟨_, rfl, .inr (.inl ⟨rfl, _, rfl⟩)⟩
    · exact ⟨_, rfl, .inr (.inr (.inl ⟨rfl, _, rfl⟩))⟩
    · exact ⟨_, rfl, .inr (.inr (.inr (.inl ⟨rfl, _, rfl⟩)))⟩
    · exact ⟨_, rfl, .inr (.inr (.inr (.inr (.inl ⟨rfl, _, rfl⟩))))⟩
    · exact ⟨_, rfl, .inr (.inr (.inr (.inr (.inr (.inl ⟨rfl, _, rfl⟩)))))⟩
    · exact ⟨_, rfl, .inr (.inr (.inr (.inr (.inr (.inr (.inl ⟨rfl, rfl⟩))))))⟩
    · exact ⟨_, rfl, .inr (.inr (.inr (.inr (.inr (.inr (.inr ⟨rfl, _, rfl⟩))))))⟩
  obtain ⟨v, e, ht⟩ := key
  exact item_at N hl e hz.1 (by omega) (h v ht (ht.vok hsg)) hs hg
end
end
section
theorem kw12 : True := by
  w_top off
  trivial
section
variable {prog : Program} {w : World} {A : Around} {E : Value → Shared → Prop} {s : Shared} {h₀ : Heap} {L a b : Addr} {news : List (Addr × Obj)} {x y : Array Value} {d : Nat} {Q : Value → Shared → Prop}
open PySem.SeqAt in
theorem ne_list_alike {k j : Nat} (N : News h₀ L s.heap news) (m1 : (a, listOf x k) ∈ news) (m2 : (b, listOf y j) ∈ news) (h4 : Paired (Alike news d) x.toList y.toList) (hu : A.units + 64 < cLine) (hd : d < 60) (h : Q (.bool false) s) :
    wpAny (model prog w) A (compareOp .NotEq (.ref a) (.ref b)) Q E s := by
  have hsz : x.size = y.size := by have := paired_len' h4; rwa [Array.length_toList, Array.length_toList] at this
  refine RcNeAt.lists (e := fun _ => true) ⟨_, (N _ m1).1, rfl, k, rfl⟩ ⟨_, (N _ m2).1, rfl, j, rfl⟩ hsz (by omega) (fun j h1 h2 => ?_) prog w E Q ?_
  · have := paired_get h4 j (by rw [Array.length_toList]; exact h1) (by rw [Array.length_toList]; exact h2)
    rw [Array.getElem_toList, Array.getElem_toList] at this
    exact alike_eqAt N (A := A.in1) (by show A.units + 1 + d < cLine; omega) this
  · rw [all_true]
    exact h
end
end
section

section
theorem kw13 : True := by
  w_top off
  k_with_none
  k_with "k_room" => first | ((try simp only [depth_under_make, depth_under_kw, depth_in1, depth_deeper, depth_caller]); omega) | decide
  k_with "code_def" => (refine' code_def ?k1w2 ?k2w2 ?k3w2 ?k4w2 ?k5w2 ?kAw2 ?kFw2 ?kKw2 ?k6w2 ?k7w2 ?k8w2 ?k9w2 ?kBw2 ?_ ?c2w2 ?c3w2 ?c4w2 ?c5w2; (case k1w2 => k_asm); (case k2w2 => k_asm); (case k3w2 => k_asm); (case k4w2 => k_asm); (case k5w2 => k_asm); (case kAw2 => assumption); (case kFw2 => assumption); (case kKw2 => assumption);  (case k6w2 => k_is); (case k7w2 => k_is); (case k8w2 => k_room); (case k9w2 => first | exact BindsTo.of_eq rfl | exact binds_K (by k_in) rfl (by k_is) rfl rfl rfl | fail "k_enter: no rule for these arguments"); (case c5w2 => decide); (case kBw2 => exact locs rfl); (case c2w2 => exact rfl); (case c3w2 => exact rfl); (case c4w2 => exact rfl))
  k_with "code_defC" => (refine' code_defC ?k1w3 ?k2w3 ?k3w3 ?k4w3 ?k5w3 ?kAw3 ?kFw3 ?kKw3 ?k6w3 ?k7w3 ?k8w3 ?k9w3 ?kBw3 ?kDw3 ?_ ?c2w3 ?c3w3 ?c4w3; (case k1w3 => k_asm); (case k2w3 => k_asm); (case k3w3 => k_asm); (case k4w3 => k_asm); (case k5w3 => k_asm); (case kAw3 => assumption); (case kFw3 => assumption); (case kKw3 => assumption); (case k6w3 => k_is); (case k7w3 => k_is); (case k8w3 => k_room); (case k9w3 => first | exact BindsTo.of_eq rfl | exact binds_K (by k_in) rfl (by k_is) rfl rfl rfl | fail "k_enter: no rule for these arguments"); (case kBw3 => exact rfl); (case kDw3 => decide +kernel); (case c2w3 => exact rfl); (case c3w3 => exact rfl); (case c4w3 => exact rfl))
  k_with "k_mem" => first | assumption | exact List.Mem.head _ | (refine' List.Mem.tail _ ?_; k_mem)
  k_with "k_all" => exact all_ne_of_lt (by assumption) (by first | exact Nat.le_refl _ | exact Nat.le_succ _ | omega)
  k_with "call builtin:str.lower" => (refine PyProof.Rows.SCL.lower (by omega) ?_; intro _)
  k_with "eval ListComp" => refine hold_intro ?_
  k_with "eval Slice none none none" => (refine slice_K (by assumption) (by assumption) ?_; intro _ _ _ _; (try k_sweep))
  k_with "setItem ref ref ref" => refine hold_intro ?_
  k_with "exec Assign cons ListComp" => ((with_reducible show wpAny _ _ (exec (Stmt.Assign [Expr.Subscript _ _ _] _ _) _) _ _ _); refine wpAny_Assign_Subscript ?_)
  k_with "call builtin:len" => (refine' len_L ?Nw11 ?hlw11 ?hsw11 ?_; (case Nw11 => k_asm); (case hlw11 => k_mem); (case hsw11 => omega); intro _ _)
  k_with "subscriptTail Name Slice ref ref" => ((with_reducible show wpAny _ _ (subscriptTail _ _ (Value.ref _) (Value.ref _)) _ _ _); refine' copy_L ?Fw12 ?Nw12 ?hlw12 ?hsw12 ?hzw12 ?_ ?hew12; (case Fw12 => k_asm); (case Nw12 => k_asm); (case hlw12 => k_mem); (case hsw12 => exact List.Mem.head _); (case hzw12 => rw [sizeLine_eq]; omega); (case hew12 => with_unfolding_all rfl); intro _ _ _ _ _; (try k_sweep))
  k_with "kp_more" => (refine' kp_more ?k1w13 ?k2w13 ?k3w13 ?k4w13 ?k5w13 ?kAw13 ?kFw13 ?kKw13 ?k6w13 ?k7w13 ?k8w13 ?kXw13 ?kMw13 ?kNw13 ?kDw13 ?kRw13 ?kPw13 ?kTw13 ?kBw13 ?_ ?c2w13 ?c3w13 ?c4w13 ?c5w13; (case kAw13 => assumption); (case kFw13 => assumption); (case kKw13 => assumption); (case k1w13 => k_asm); (case k2w13 => k_asm); (case k3w13 => k_asm); (case k4w13 => k_asm); (case k5w13 => k_asm); (case k6w13 => k_is); (case k7w13 => k_is); (case k8w13 => k_room); (case kXw13 => kp_lit); (case kMw13 => exact rfl); (case kNw13 => exact rfl); (case kDw13 => kp_flats); (case kRw13 => exact rfl); (case kPw13 => exact rfl); (case kTw13 => exact fun _ => rfl); (case kBw13 => exact fun _ => locs rfl); (case c5w13 => decide); (case c2w13 => exact rfl); (case c3w13 => exact rfl); (case c4w13 => exact rfl))
  k_with "exec For Tuple Name" => refine hold_intro ?_
  k_with "exec For Tuple Call" => refine hold_intro ?_
  k_with "exec For Tuple Call cons nil" => refine hold_intro ?_
  k_with "exec For Tuple Name cons nil" => refine hold_intro ?_
  k_with "call builtin:list.append" => (refine' append_L ?Fw18 ?Nw18 ?hlw18 ?_ ?hzw18; (case Fw18 => k_asm); (case Nw18 => k_asm); (case hlw18 => k_mem); (case hzw18 => (rw [sizeLine_eq]; omega)); intro _ _ _)
  k_with "execs cons" => ((with_reducible show wpAny _ _ (execs [_] _) _ _ _); refine execs_one ?_)
  k_with "k_room" => first | exact room0 (by with_reducible assumption) (by decide) | exact room1 (by with_reducible assumption) rfl (by decide) | exact room2 (by with_reducible assumption) rfl (by decide)
  k_with "storeName" => ((with_reducible show wpAny _ _ (storeName _ _ _) _ _ _); dsimp only)
  k_with "newList" => ((with_reducible show wpAny _ _ (newList _) _ _ _); dsimp only)
  k_with "newTuple" => ((with_reducible show wpAny _ _ (newTuple _) _ _ _); dsimp only)
  k_with "getMethod ref" => ((with_reducible show wpAny _ _ (getMethod (Value.ref _) (PySem.Str.ofString "append") _) _ _ _); (refine' listMethod_K ?Nw24 ?mw24 PySem.F.slot_list_append PySem.F.type_list_append ?_; (case Nw24 => k_asm); (case mw24 => k_mem)))
  k_with "callWith ref" => ((with_reducible show wpAny _ _ (callWith _ _ _ _ (backToKw _ _)) _ _ _); k_dflt (refine' callWith_KW ?k1w25 ?k2w25 ?k3w25 ?_; (case k1w25 => k_asm); (case k2w25 => k_is); (case k3w25 => exact rfl); k_whole))
  k_with "mk_sit" => (refine' Sit.mk ?KXw26 ?Tw26 ?Bw26 ?Fw26 ?Nw26 ?hAw26 ?hfw26 ?hkew26 ?hroomw26 ?hhw26; (case KXw26 => k_asm); (case Tw26 => k_asm); (case Bw26 => k_asm); (case Fw26 => k_asm); (case Nw26 => k_asm); (case hAw26 => first | with_reducible assumption | exact Around.frames_deeper (Below.stack (by with_reducible assumption)) | rfl); (case hfw26 => first | with_reducible assumption | rfl); (case hkew26 => first | with_reducible assumption | rfl); (case hroomw26 => k_room); (case hhw26 => first | with_reducible assumption | exact handled_deeper (by with_reducible assumption) | assumption | rfl))
  k_with "call ref" => ((with_reducible show wpAny _ _ (call (Value.ref 83) [_, Value.str _ _] (List.zip _ [Value.bool true])) _ _ _); k_dflt (refine' conv_name ?Sw27 ?kaw27 ?kbw27 ?_; (case Sw27 => walk_at "mk_sit"); (case kaw27 => k_asm); (case kbw27 => k_asm); k_whole); intro _ _ _ _)
  k_with "call ref" => ((with_reducible show wpAny _ _ (call (Value.ref 83) [_, Value.str _ _] (List.zip _ [Value.bool false])) _ _ _); k_dflt (refine' conv_val ?Sw28 ?kaw28 ?kbw28 ?_; (case Sw28 => walk_at "mk_sit"); (case kaw28 => k_asm); (case kbw28 => k_asm); k_whole); intro _ _ _ _)
  k_with "box" => first | with_reducible assumption | exact Box.tail (by with_reducible assumption) | exact Box.tail (Box.tail (by with_reducible assumption)) | exact Box.tail (Box.tail (Box.tail (by with_reducible assumption))) | exact Box.tail (Box.tail (Box.tail (Box.tail (by with_reducible assumption))))
  k_with "k_mem" => first | with_reducible assumption | exact Box.hx (by with_reducible assumption) | exact Box.hd (by with_reducible assumption) | exact Box.hl (by with_reducible assumption) | exact List.Mem.head _ | (refine' List.Mem.tail _ ?_; k_mem) | (refine' Kept.mem (by with_reducible assumption) ?_ ?_; (k_mem); (first | with_reducible assumption | exact Ne.symm (by with_reducible assumption)))
  k_with "call ref" => ((with_reducible show wpAny _ _ (call (Value.ref 102) [_, Value.str _ _] _) _ _ _); k_dflt (refine' box_del ?Sw31 ?Bw31 ?kaw31 ?kbw31 ?_; (case Sw31 => walk_at "mk_sit"); (case Bw31 => walk_at "box"); (case kaw31 => walk_at "side"); (case kbw31 => walk_at "side"); k_whole); intro _ _ _ _ _ _ _ _ _)
  k_with "call ref" => ((with_reducible show wpAny _ _ (call (Value.ref 123) [_, Value.str _ _] _) _ _ _); k_dflt (refine' box_get ?Sw32 ?Bw32 ?kaw32 ?kbw32 ?_; (case Sw32 => walk_at "mk_sit"); (case Bw32 => walk_at "box"); (case kaw32 => walk_at "side"); (case kbw32 => walk_at "side"); k_whole); intro _ _ _ _ _ _ _ _ _)
  k_with "call ref" => ((with_reducible show wpAny _ _ (call (Value.ref 181) [_, Value.str _ _, Value.none] _) _ _ _); k_dflt (refine' box_none ?Sw33 ?Bw33 ?kaw33 ?kbw33 ?kcw33 ?_; (case Sw33 => walk_at "mk_sit"); (case Bw33 => walk_at "box"); (case kaw33 => walk_at "side"); (case kbw33 => walk_at "side"); (case kcw33 => walk_at "side"); k_whole); intro _ _ _ _ _ _ _ _ _ _)
  k_with "call ref" => ((with_reducible show wpAny _ _ (call (Value.ref 181) [_, Value.str _ _, Value.str _ _] _) _ _ _); k_dflt (refine' box_str ?Sw34 ?Bw34 ?kaw34 ?kbw34 ?kcw34 ?kdw34 ?kew34 ?_; (case Sw34 => walk_at "mk_sit"); (case Bw34 => walk_at "box"); (case kaw34 => walk_at "side"); (case kbw34 => walk_at "side"); (case kcw34 => walk_at "side"); (case kdw34 => walk_at "side"); (case kew34 => walk_at "side"); k_whole); intro _ _ _ _ _ _ _ _ _ _)
  k_with "call ref" => ((show wpAny _ _ (call (Value.ref 148) [Value.ref _]) _ _ _); k_dflt (refine' box_items ?Sw35 ?Bw35 ?_; (case Sw35 => walk_at "mk_sit"); (case Bw35 => walk_at "box"); k_whole); intro _ _ _ _ _ _)
  k_with "side" => first | with_reducible assumption | decide | omega
  k_with "call builtin:len" => (k_dflt (refine' box_len ?Sw37 ?Bw37 ?_; (case Sw37 => walk_at "mk_sit"); (case Bw37 => walk_at "box"); k_whole); intro _ _ _ _ _)
  k_with "call builtin:list.append" => (refine' append_K ?Fw38 ?Nw38 ?hlw38 ?hzw38 ?_; (case Fw38 => k_asm); (case Nw38 => k_asm); (case hlw38 => k_mem); (case hzw38 => (rw [sizeLine_eq]; first | omega | decide)); intro _ _ _ _ _ _)
  k_with "call builtin:list.append" => (refine' box_tell ?Fw39 ?Nw39 ?Bw39 ?htw39 ?hnew39 ?hsw39 ?_; (case Fw39 => k_asm); (case Nw39 => k_asm); (case Bw39 => walk_at "box"); (case htw39 => k_mem); (case hnew39 => assumption); (case hsw39 => walk_at "side"); intro _ _ _ _ _ _ _)
  k_with "call builtin:list.append" => (refine' box_append ?Fw40 ?Nw40 ?Bw40 ?htw40 ?hsw40 ?hzw40 ?_; (case Fw40 => k_asm); (case Nw40 => k_asm); (case Bw40 => walk_at "box"); (case htw40 => exact List.Mem.head _); (case hsw40 => walk_at "side"); (case hzw40 => walk_at "side"); intro _ _ _ _ _ _)
  k_with "exec For Name Call" => refine hold_intro ?_
  k_with "exec For Name Name" => refine hold_intro ?_
  k_with "exec For Name Name cons nil" => refine hold_intro ?_
  k_with "exec For Name Call cons nil" => refine hold_intro ?_
  k_with "kept2" => first | assumption | exact Kept2.start | (refine' Kept2.tail ?_; walk_at "kept2") | (refine' Kept2.left ?kzw45 ?kww45; (case kww45 => assumption); (case kzw45 => walk_at "kept2")) | (refine' Kept2.right ?kzw45 ?kww45; (case kww45 => assumption); (case kzw45 => walk_at "kept2")) | (refine' Kept2.both ?kzw45 ?kww45; (case kww45 => with_reducible assumption); (case kzw45 => walk_at "kept2"))
  k_with "agree" => first | assumption | exact Agree.start | (refine' Agree.set ?_ ?kww46; (case kww46 => decide); walk_at "agree")
  k_with "delItem ref str" => (k_dflt (refine' delItem_own ?Fw47 ?Xw47 ?Iw47 ?hQw47 ?hSw47 ?hFw47 ?_; (case Fw47 => k_asm); (case Xw47 => k_asm); (case Iw47 => k_inst); (case hSw47 => k_is); (case hFw47 => k_is); (case hQw47 => k_is); k_whole))
  k_with "call builtin:len" => (refine' len_L ?Nw48 ?hlw48 ?hsw48 ?_; (case hlw48 => k_mem); (case hsw48 => with_reducible assumption); (case Nw48 => k_asm); intro _ _)
  trivial
/-- what «get» tells -/
def getv (ps : List (Str × Value)) (key : Str) : Value := match ps.find? (fun q => Txt.lower q.1 == key) with
  | some q => q.2
  | none => .none
def Seek (x₁ x₂ : Str) (M : Str → Option Value) (n₀ : List (Addr × Obj)) (ps : List (Str × Value)) (key : Str) : Nat → (Str → Option Value) → List (Addr × Obj) → Prop := fun i m' n' => Keep2 x₁ x₂ M n₀ i m' n' ∧ ∀ j < i, ∀ q, ps[j]? = some q → (Txt.lower q.1 == key) = false
theorem Seek.start {x₁ x₂ : Str} {M : Str → Option Value} {n₀ : List (Addr × Obj)} {ps : List (Str × Value)} {key : Str} : Seek x₁ x₂ M n₀ ps key 0 M n₀ := ⟨Keep2.start, fun j hj => absurd hj (Nat.not_lt_zero _)⟩
theorem Seek.mono {x₁ x₂ : Str} {M : Str → Option Value} {n₀ : List (Addr × Obj)} {ps : List (Str × Value)} {key : Str} (i : Nat) (m : Str → Option Value) (n n' : List (Addr × Obj)) (I : Addr) (h1 : ∀ p ∈ n₀, p.1 ≠ I) (h2 : ∀ p ∈ n, isIter p.2 = false → p.1 ≠ I) (h3 : Seek x₁ x₂ M n₀ ps key i m n) (h4 : ∀ p ∈ n, p.1 ≠ I → p ∈ n') : Seek x₁ x₂ M n₀ ps key i m n' :=
  ⟨Keep2.mono i m n n' I h1 h2 h3.1 h4, h3.2⟩
theorem getv_at {ps : List (Str × Value)} {key : Str} {i : Nat} {q : Str × Value} (h : ps[i]? = some q) (hk : (Txt.lower q.1 == key) = true) (hb : ∀ j < i, ∀ q, ps[j]? = some q → (Txt.lower q.1 == key) = false) : getv ps key = q.2 := by
  induction ps generalizing i with
  | nil => simp at h
  | cons a r ih =>
    unfold getv
    rw [List.find?_cons]
    cases i with
    | zero => cases h; rw [hk]
    | succ j =>
      rw [hb 0 (Nat.succ_pos _) a rfl]
      exact ih h fun j' hj q hq => hb (j' + 1) (Nat.succ_lt_succ hj) q hq
theorem getv_no {ps : List (Str × Value)} {key : Str} (hb : ∀ j < ps.length, ∀ q, ps[j]? = some q → (Txt.lower q.1 == key) = false) : getv ps key = .none := by
  induction ps with
  | nil => rfl
  | cons a r ih =>
    unfold getv
    rw [List.find?_cons, hb 0 (Nat.succ_pos _) a rfl]
    exact ih fun j' hj q hq => hb (j' + 1) (Nat.succ_lt_succ hj) q hq
section
variable {w : World} {A A₀ : Around} {E : Value → Shared → Prop} {s : Shared} {h₀ base : Heap} {env : Env} {outer : List Env} {L x l d : Addr} {tl : Tok} {m mg mb : Str → Option Value} {news : List (Addr × Obj)}
   {p : Program} {loose : List Str} {mean : ExcName → Option Value} {Q : Value → Shared → Prop} {nm : Str} {tk : Tok} {its : Array Value} {n : Nat} {ps : List (Str × Value)}
theorem get_box {v : Value} (S : Sit w A A₀ base h₀ env outer L m p loose mean mg mb news s.heap 15) (B : Box w news x l d tl its n ps) (hsm : nm.length ≤ 1000) (hclean : ctlIn isCtlN (Txt.lower nm).cps = false) (hv : getv ps (Txt.lower nm) = v)
   (h : ∀ h' t', Fr h₀ L h' m → News h₀ L h' news → Q v {s with heap := h', toks := t'}) :
   wpAny (model pg w) A (call (.ref 131) [.ref x, .str nm tk]) Q E s := by
  obtain ⟨KX, T, B', F, N, hA, hf, hke, hroom, hh⟩ := S
  have hll : (Txt.lower nm).length ≤ 2 ^ 24 := by have := len_lower nm; omega
  have hl := B.hl
  have P := B.P
  subst hv
  refine wpAny_call ?_
  k_enter
  k_steps
  refine hold_elim ?_
  refine wpAny_For ?_
  k_steps
  refine' for_list (l := l) (its := its) (n := n) (Seek (Str.ofString "k") (Str.ofString "v") _ _ ps (Txt.lower nm)) ?hh ?F ?N ?hJ ?hl ?j0 ?turn ?done
  case hh => exact hh
  case F => k_asm
  case N => k_asm
  case j0 => exact Seek.start
  case hJ => exact Seek.mono
  case hl => exact fun i m n h => h.1.2 _ (by k_mem)
  case turn =>
    rintro i v m₁ n₁ h₂ tk₂ it e ⟨⟨⟨u₁, u₂, rfl⟩, hsub⟩, hno⟩ hit him F' N'
    obtain ⟨t, nm2, tk, val, rfl, ht, hsm2, hps⟩ := P.at_ i v (by rw [Array.getElem?_toList]; exact e)
    have hlen1 : nm2.length ≤ 2 ^ 24 := by omega
    have ht1 := hsub _ ht
    refine assign_pair hh F' N' ht1 rfl rfl rfl ?_
    intro h₃ tk₃ F' N'
    k_steps
    · unfold TurnEnd
      dsimp only
      k_steps
      rw [getv_at hps (by assumption) hno] at h
      exact h _ _ (by assumption) (news_mono (by assumption) hsub)
    · refine ⟨_, _, _, _, rfl, by assumption, by assumption, him, ⟨⟨_, _, over2_over⟩, hsub⟩, ?_⟩
      intro j hj q hq
      rcases Nat.lt_succ_iff_lt_or_eq.mp hj with hj | rfl
      · exact hno j hj q hq
      · rw [hps] at hq
        cases hq
        assumption
  case done =>
    rintro m₁ n₁ h₂ tk₂ ⟨⟨⟨u₁, u₂, rfl⟩, hsub⟩, hno⟩ F' N'
    k_steps
    rw [getv_no (fun j hj => hno j (B.size ▸ hj))] at h
    exact h _ _ (by assumption) (news_mono (by assumption) hsub)
end
end
section
theorem kw14 : True := by
  w_top off
  trivial
section
variable {w : World} {A A₀ : Around} {E : Value → Shared → Prop} {s : Shared} {h₀ base : Heap} {env : Env} {outer : List Env} {L x l d : Addr} {tl : Tok} {m mg mb : Str → Option Value} {news : List (Addr × Obj)}
   {p : Program} {loose : List Str} {mean : ExcName → Option Value} {Q : Value → Shared → Prop} {nm : Str} {tk : Tok} {its : Array Value} {n : Nat} {ps : List (Str × Value)}
theorem keys_box (S : Sit w A A₀ base h₀ env outer L m p loose mean mg mb news s.heap 10) (B : Box w news x l d tl its n ps)
   (h : ∀ D (ys : List Value) k h' t', ys.length = ps.length → Fr h₀ L h' m → News h₀ L h' ((D, listOf ys.toArray k) :: news) → (∀ q ∈ news, q.1 ≠ D) → Q (.ref D) {s with heap := h', toks := t'}) :
   wpAny (model pg w) A (call (.ref 136) [.ref x]) Q E s := by
  obtain ⟨KX, T, B', F, N, hA, hf, hke, hroom, hh⟩ := S
  have hdd := B.hd
  refine wpAny_call ?_
  k_enter
  k_steps
  refine hold_elim ?_
  refine' pairs_comp (l := l) (its := its) (n := n) (ps := ps) hh ?F B.hl B.P B.small' ?hclos ?hcell ?hkind ?hnames ?hx ?hx2 ?hxx (.inl rfl) ?hk ?hj ?hd ?hiter ?hs ?hQ
  case F => k_asm
  case hclos => with_unfolding_all rfl
  case hcell => decide
  case hkind => rfl
  case hnames => decide
  case hx => rfl
  case hx2 => rfl
  case hxx => decide
  case hk => exact fun _ => rfl
  case hj => exact fun _ => rfl
  case hd => decide
  case hs => intro _; with_unfolding_all rfl
  case hiter =>
    intro Q' hQ'
    k_steps
    exact hQ' _ _ (by assumption) (by assumption)
  case hQ =>
    intro D ys k h' tk hys F' N' ne
    k_steps
    exact h D ys k _ _ (hys.trans B.size) (by assumption) (by assumption) ne
theorem values_box (S : Sit w A A₀ base h₀ env outer L m p loose mean mg mb news s.heap 10) (B : Box w news x l d tl its n ps)
   (h : ∀ D (ys : List Value) k h' t', ys.length = ps.length → Fr h₀ L h' m → News h₀ L h' ((D, listOf ys.toArray k) :: news) → (∀ q ∈ news, q.1 ≠ D) → Q (.ref D) {s with heap := h', toks := t'}) :
   wpAny (model pg w) A (call (.ref 141) [.ref x]) Q E s := by
  obtain ⟨KX, T, B', F, N, hA, hf, hke, hroom, hh⟩ := S
  have hdd := B.hd
  refine wpAny_call ?_
  k_enter
  k_steps
  refine hold_elim ?_
  refine' pairs_comp (l := l) (its := its) (n := n) (ps := ps) hh ?F B.hl B.P B.small' ?hclos ?hcell ?hkind ?hnames ?hx ?hx2 ?hxx (.inr rfl) ?hk ?hj ?hd ?hiter ?hs ?hQ
  case F => k_asm
  case hclos => with_unfolding_all rfl
  case hcell => decide
  case hkind => rfl
  case hnames => decide
  case hx => rfl
  case hx2 => rfl
  case hxx => decide
  case hk => exact fun _ => rfl
  case hj => exact fun _ => rfl
  case hd => decide
  case hs => intro _; with_unfolding_all rfl
  case hiter =>
    intro Q' hQ'
    k_steps
    exact hQ' _ _ (by assumption) (by assumption)
  case hQ =>
    intro D ys k h' tk hys F' N' ne
    k_steps
    exact h D ys k _ _ (hys.trans B.size) (by assumption) (by assumption) ne
end
end
section
theorem kw15 : True := by
  w_top off
  trivial
section
variable {w : World} {A A₀ : Around} {E : Value → Shared → Prop} {s : Shared} {h₀ base : Heap} {outer : List Env} {L C x l d : Addr} {tl : Tok} {m m₃ mg mb : Str → Option Value} {news : List (Addr × Obj)} {env env' : Env} {scope : Scope} {cl : List (Str × Addr)} {p1 p2 p3 p4 p5 : Pos}
   {p : Program} {loose : List Str} {mean : ExcName → Option Value} {Q : Value → Shared → Prop} {its : Array Value} {n : Nat} {ps : List (Str × Value)} {c : Int} {t : Tok}
theorem len_elt (S : Sit w A A₀ base h₀ env' outer L m p loose mean mg mb news s.heap 10) (B : Box w news x l d tl its n ps) (hg : env.globals = mainGlobals) (hb : env.builtins = builtinsNs) (hk : (compEnvC scope cl C env).scope.kind = .function) (hj : (compEnvC scope cl C env).kindOf (Str.ofString "table") = some .local) (h1 : (compEnvC scope cl C env).kindOf (Str.ofString "len") = some .globalImplicit) (hn : s.heap.Ns C m₃) (hm : m₃ (Str.ofString "table") = some (.ref x))
   (hQ : ∀ h' t' tk, Fr h₀ L h' m → News h₀ L h' news → Q (.int ps.length tk) { s with heap := h', toks := t' }) :
   wpAny (model pg w) A (eval (.Call (.Name (Str.ofString "len") p1) [.Name (Str.ofString "table") p2] [] p3) (compEnvC scope cl C env)) Q E s := by
  refine Call_ ?_
  refine LCgL.ld_built S.F S.KX S.T (by k_is) rfl (by decide) ?_ hg hb hk h1
  refine PyProof.Rows.callWith_builtin1 ?_
  refine spliced_more ?_
  refine wpAny_Name (wpAny_loadName_local hk hj hn hm ?_)
  refine spliced_none ?_
  exact box_len S B hQ
theorem len_elt2 (S : Sit w A A₀ base h₀ env' outer L m p loose mean mg mb news s.heap 10) (hT : Tab w news x l) (hl : (l, listOf its n) ∈ news) (hsz : its.size ≤ 1000) (hg : env.globals = mainGlobals) (hb : env.builtins = builtinsNs) (hk : (compEnvC scope cl C env).scope.kind = .function) (hj : (compEnvC scope cl C env).kindOf (Str.ofString "table") = some .local) (h1 : (compEnvC scope cl C env).kindOf (Str.ofString "len") = some .globalImplicit) (hn : s.heap.Ns C m₃) (hm : m₃ (Str.ofString "table") = some (.ref x))
   (hQ : ∀ h' t' tk, Fr h₀ L h' m → News h₀ L h' news → Q (.int its.size tk) { s with heap := h', toks := t' }) :
   wpAny (model pg w) A (eval (.Call (.Name (Str.ofString "len") p1) [.Name (Str.ofString "table") p2] [] p3) (compEnvC scope cl C env)) Q E s := by
  refine Call_ ?_
  refine LCgL.ld_built S.F S.KX S.T (by k_is) rfl (by decide) ?_ hg hb hk h1
  refine PyProof.Rows.callWith_builtin1 ?_
  refine spliced_more ?_
  refine wpAny_Name (wpAny_loadName_local hk hj hn hm ?_)
  refine spliced_none ?_
  exact len_spec S hT hl hsz hQ
end
end
section

section
theorem kw19 : True := by
  w_top off
  trivial
theorem kw18 : True := by
  k_with "call ref" => (fail_if_success have := @offgANY); ((with_reducible show wpAny _ _ (call (Value.ref 83) [_, _] (List.zip _ [Value.bool true])) _ _ _); k_dflt (refine' conv_any_n ?Sw73 ?hvw73 ?_ ?_ ?_; (case Sw73 => walk_at "mk_sit"); (case hvw73 => with_reducible assumption)); intro _ _ _ _; rintro _ _ rfl _ _; rotate_left; intro _ _ _ _ _ _ _ _ _ _ _ _; rotate_left; intro _ _ _ _ _ _ _ _ _ _ _ _; rotate_left)
  k_with "call ref" => (fail_if_success have := @offgANY); ((with_reducible show wpAny _ _ (call (Value.ref 83) [_, _] (List.zip _ [Value.bool false])) _ _ _); k_dflt (refine' conv_any (b := false) ?Sw74 ?hvw74 ?_ ?_ ?_; (case Sw74 => walk_at "mk_sit"); (case hvw74 => with_reducible assumption)); intro _ _ _ _ _; rotate_left; intro _ _ _ _ _ _ _ _ _ _ _ _; rotate_left; intro _ _ _ _ _ _ _ _ _ _ _ _; rotate_left)
  k_with "leaving ref" => (fail_if_success have := @offgANY); (k_here; (refine' leave_onX rfl ?k1w75 ?k2w75 ?k3w75 ?k4w75 ?_; (case k3w75 => assumption); (case k2w75 => assumption); (case k1w75 => assumption); (case k4w75 => assumption); k_whole; intro _ S' U'; (try dsimp only at S' U' ⊢); (revert S' U'; intro _ _)))
  k_with "leaving ref" => (fail_if_success have := @offgANY); (k_here; (refine' leave_onS ?k1w76 ?k2w76 ?k3w76 ?k4w76 ?_; (case k3w76 => assumption); (case k2w76 => assumption); (case k1w76 => assumption); (case k4w76 => assumption); k_whole; intro _ S' R' U'; (try dsimp only at S' R' U' ⊢); (revert S' R' U'; intro _ _ _)))
  trivial
theorem kept_sub {l : Addr} {a b c : List (Addr × Obj)} (h1 : Kept l a b) (h2 : ∀ q ∈ b, q ∈ c) : Kept l a c := fun q hq hne => h2 q (h1 q hq hne)
theorem kept_two {l : Addr} {e : Addr × Obj} {a b c : List (Addr × Obj)} (h1 : Kept l a b) (h2 : Kept l (e :: b) c) : Kept l a c := fun q hq hne => h2 q (.tail _ (h1 q hq hne)) hne
theorem off1 {e : Addr × Obj} {a b : List (Addr × Obj)} (h : ∀ q ∈ e :: a, q ∈ b) : ∀ q ∈ a, q ∈ b := fun q hq => h q (.tail _ hq)
theorem Kept.refl {l : Addr} {a : List (Addr × Obj)} : Kept l a a := fun _ h _ => h
section
variable {w : World} {A A₀ : Around} {E : Value → Shared → Prop} {s : Shared} {h₀ base : Heap} {env : Env} {outer : List Env} {L x l d : Addr} {tl : Tok} {m mg mb : Str → Option Value} {news : List (Addr × Obj)}
   {p : Program} {loose : List Str} {mean : ExcName → Option Value} {Q : Value → Shared → Prop} {nm : Str} {tk : Tok} {its : Array Value} {n : Nat} {ps : List (Str × Value)} {v : Value}
section
theorem kw16 : True := by
  k_with "call ref" => (fail_if_success have := @offH14); ((with_reducible show wpAny _ _ (call (Value.ref 83) [_, Value.str _ _] (List.zip _ [Value.bool true])) _ _ _); k_dflt (refine' conv_name_bad ?Sw71 ?kaw71 ?kbw71 ?_; (case kbw71 => with_reducible assumption); (case Sw71 => walk_at "mk_sit"); (case kaw71 => with_reducible assumption); k_whole); intro _ _ _ _ _ _ _ _ _ _ _)
  trivial
theorem del_bad (S : Sit w A A₀ base h₀ env outer L m p loose mean mg mb news s.heap 15) (hsm : nm.length ≤ 1000) (hbad : ctlIn isCtlN (Txt.lower nm).cps = true)
   (B : Box w news x l d tl its n ps)
   (h : ∀ e t g h' t' news' tk', Fr h₀ L g m → RaisedS base g (env :: outer) e (.type "ValueError") t [.str ctlM tk'] news' h' → g.UpToSlots h' → (∀ q ∈ news, q ∈ news') → E (.ref e) {s with heap := h', toks := t'}) :
   wpAny (model pg w) A (call (.ref 102) [.ref x, .str nm tk]) Q E s := by
  obtain ⟨KX, T, B', F, N, hA, hf, hke, hroom, hh⟩ := S
  have hll : (Txt.lower nm).length ≤ 2 ^ 24 := by have := len_lower nm; omega
  refine wpAny_call ?_
  k_enter
  k_steps
  exact h _ _ _ _ _ _ _ (by assumption) (by assumption) (by assumption) (off1 (by assumption))
end
section
theorem kw17 : True := by
  k_with "call ref" => (fail_if_success have := @offH14); ((with_reducible show wpAny _ _ (call (Value.ref 102) [_, Value.str _ _] _) _ _ _); k_dflt (refine' del_bad ?Sw72 ?kaw72 ?kbw72 ?Bw72 ?_; (case kbw72 => with_reducible assumption); (case Sw72 => walk_at "mk_sit"); (case Bw72 => walk_at "box"); (case kaw72 => with_reducible assumption); k_whole); intro _ _ _ _ _ _ _ _ _ _ _)
  trivial
theorem set_nmbad (S : Sit w A A₀ base h₀ env outer L m p loose mean mg mb news s.heap 25) (hsm : nm.length ≤ 1000) (hbad : ctlIn isCtlN (Txt.lower nm).cps = true)
   (B : Box w news x l d tl its n ps)
   (h : ∀ e t g h' t' news' tk', Fr h₀ L g m → RaisedS base g (env :: outer) e (.type "ValueError") t [.str ctlM tk'] news' h' → g.UpToSlots h' → (∀ q ∈ news, q ∈ news') → E (.ref e) {s with heap := h', toks := t'}) :
   wpAny (model pg w) A (call (.ref 97) [.ref x, .str nm tk, v]) Q E s := by
  obtain ⟨KX, T, B', F, N, hA, hf, hke, hroom, hh⟩ := S
  refine wpAny_call ?_
  k_enter
  k_steps
  exact h _ _ _ _ _ _ _ (by assumption) (by assumption) (by assumption) (by assumption)
end
theorem set_any (S : Sit w A A₀ base h₀ env outer L m p loose mean mg mb news s.heap 25) (B : Box w news x l d tl its n ps) (hsm : nm.length ≤ 1000) (hclean : ctlIn isCtlN (Txt.lower nm).cps = false) (hc2 : ctlIn isCtlN nm.cps = false) (hv : VOk v) (hs : ps.length < 1000)
   (ok : goodV isCtlV v → ∀ h' t' news' its' n', Fr h₀ L h' m → News h₀ L h' news' → Kept l news news' → Box w news' x l d tl its' n' (ps.filter (fun q => !(Txt.lower q.1 == Txt.lower nm)) ++ [(nm, v)]) → Q .none {s with heap := h', toks := t'})
   (bv : badV isCtlV v → ∀ e t g h' t' news' tk' its' n', Fr h₀ L g m → RaisedS base g (env :: outer) e (.type "ValueError") t [.str ctlM tk'] news' h' → g.UpToSlots h' → Kept l news news' → Box w news' x l d tl its' n' (ps.filter (fun q => !(Txt.lower q.1 == Txt.lower nm))) → E (.ref e) {s with heap := h', toks := t'})
   (ba : badA v → ∀ e t g h' t' news' tk' its' n', Fr h₀ L g m → RaisedS base g (env :: outer) e (.type "AssertionError") t [.str (errM v) tk'] news' h' → g.UpToSlots h' → Kept l news news' → Box w news' x l d tl its' n' (ps.filter (fun q => !(Txt.lower q.1 == Txt.lower nm))) → E (.ref e) {s with heap := h', toks := t'}) :
   wpAny (model pg w) A (call (.ref 97) [.ref x, .str nm tk, v]) Q E s := by
  obtain ⟨KX, T, B', F, N, hA, hf, hke, hroom, hh⟩ := S
  have hlen : nm.length ≤ 2 ^ 24 := by omega
  have hps : (ps.filter (fun q => !(Txt.lower q.1 == Txt.lower nm))).length < 1000 := Nat.lt_of_le_of_lt (List.length_filter_le _ _) hs
  refine wpAny_call ?_
  k_enter
  k_steps
  · exact ok (by assumption) _ _ _ _ _ (by assumption) (by assumption) (kept_two (by assumption) (by assumption)) (by walk_at "box")
  · exact bv (by assumption) _ _ _ _ _ _ _ _ _ (by assumption) (by assumption) (by assumption) (kept_sub (by assumption) (by assumption)) (Box.mono (by assumption) (by assumption))
  · exact ba (by assumption) _ _ _ _ _ _ _ _ _ (by assumption) (by assumption) (by assumption) (kept_sub (by assumption) (by assumption)) (Box.mono (by assumption) (by assumption))
end
theorem offH14 : True := trivial
end
section
theorem kw23 : True := by
  w_top off
  trivial
section
variable {w : World} {A A₀ : Around} {E : Value → Shared → Prop} {s : Shared} {h₀ base : Heap} {env : Env} {outer : List Env} {L x l d : Addr} {tl : Tok} {m mg mb : Str → Option Value} {news : List (Addr × Obj)}
   {p : Program} {loose : List Str} {mean : ExcName → Option Value} {Q : Value → Shared → Prop} {nm : Str} {tk : Tok} {its : Array Value} {n : Nat} {ps : List (Str × Value)} {v : Value}
section
theorem kw20 : True := by
  k_with "call ref" => (fail_if_success have := @offH15); ((with_reducible show wpAny _ _ (call (Value.ref 83) [_, Value.str _ _] (List.zip _ [Value.bool true])) _ _ _); k_dflt (refine' conv_name_bad ?Sw77 ?kaw77 ?kbw77 ?_; (case kbw77 => with_reducible assumption); (case Sw77 => walk_at "mk_sit"); (case kaw77 => with_reducible assumption); k_whole); intro _ _ _ _ _ _ _ _ _ _ _)
  trivial
theorem get_bad (S : Sit w A A₀ base h₀ env outer L m p loose mean mg mb news s.heap 15) (hsm : nm.length ≤ 1000) (hbad : ctlIn isCtlN (Txt.lower nm).cps = true)
   (B : Box w news x l d tl its n ps)
   (h : ∀ e t g h' t' news' tk', Fr h₀ L g m → RaisedS base g (env :: outer) e (.type "ValueError") t [.str ctlM tk'] news' h' → g.UpToSlots h' → (∀ q ∈ news, q ∈ news') → E (.ref e) {s with heap := h', toks := t'}) :
   wpAny (model pg w) A (call (.ref 131) [.ref x, .str nm tk]) Q E s := by
  obtain ⟨KX, T, B', F, N, hA, hf, hke, hroom, hh⟩ := S
  have hll : (Txt.lower nm).length ≤ 2 ^ 24 := by have := len_lower nm; omega
  refine wpAny_call ?_
  k_enter
  k_steps
  exact h _ _ _ _ _ _ _ (by assumption) (by assumption) (by assumption) (by assumption)
end
section
theorem kw21 : True := by
  k_with "call ref" => (fail_if_success have := @offH15); ((with_reducible show wpAny _ _ (call (Value.ref 131) [_, Value.str _ _] _) _ _ _); k_dflt (refine' get_bad ?Sw78 ?kaw78 ?kbw78 ?Bw78 ?_; (case kbw78 => with_reducible assumption); (case Sw78 => walk_at "mk_sit"); (case Bw78 => walk_at "box"); (case kaw78 => with_reducible assumption); k_whole); intro _ _ _ _ _ _ _ _ _ _ _)
  trivial
theorem setdef_bad (S : Sit w A A₀ base h₀ env outer L m p loose mean mg mb news s.heap 25) (hsm : nm.length ≤ 1000) (hbad : ctlIn isCtlN (Txt.lower nm).cps = true)
   (B : Box w news x l d tl its n ps)
   (h : ∀ e t g h' t' news' tk', Fr h₀ L g m → RaisedS base g (env :: outer) e (.type "ValueError") t [.str ctlM tk'] news' h' → g.UpToSlots h' → (∀ q ∈ news, q ∈ news') → E (.ref e) {s with heap := h', toks := t'}) :
   wpAny (model pg w) A (call (.ref 174) [.ref x, .str nm tk, v]) Q E s := by
  obtain ⟨KX, T, B', F, N, hA, hf, hke, hroom, hh⟩ := S
  refine wpAny_call ?_
  k_enter
  k_steps
  exact h _ _ _ _ _ _ _ (by assumption) (by assumption) (by assumption) (by assumption)
end
section
theorem kw22 : True := by
  k_with "call ref" => (fail_if_success have := @offH15); ((with_reducible show wpAny _ _ (call (Value.ref 131) [_, Value.str _ _] _) _ _ _); k_dflt (refine' get_box ?Sw79 ?Bw79 ?kaw79 ?kbw79 ?kvw79 ?_; (case kvw79 => with_reducible assumption); (case Sw79 => walk_at "mk_sit"); (case Bw79 => walk_at "box"); (case kaw79 => with_reducible assumption); (case kbw79 => with_reducible assumption); k_whole); intro _ _ _ _)
  trivial
theorem setdef_str {y : Str} {ty : Tok} (S : Sit w A A₀ base h₀ env outer L m p loose mean mg mb news s.heap 25) (B : Box w news x l d tl its n ps) (hsm : nm.length ≤ 1000) (hclean : ctlIn isCtlN (Txt.lower nm).cps = false) (hv : getv ps (Txt.lower nm) = .str y ty)
   (h : ∀ h' t', Fr h₀ L h' m → News h₀ L h' news → Q (.str y ty) {s with heap := h', toks := t'}) :
   wpAny (model pg w) A (call (.ref 174) [.ref x, .str nm tk, v]) Q E s := by
  obtain ⟨KX, T, B', F, N, hA, hf, hke, hroom, hh⟩ := S
  refine wpAny_call ?_
  k_enter
  k_steps
  exact h _ _ (by assumption) (by assumption)
theorem setdef_int {z : Int} {ty : Tok} (S : Sit w A A₀ base h₀ env outer L m p loose mean mg mb news s.heap 25) (B : Box w news x l d tl its n ps) (hsm : nm.length ≤ 1000) (hclean : ctlIn isCtlN (Txt.lower nm).cps = false) (hv : getv ps (Txt.lower nm) = .int z ty)
   (h : ∀ h' t', Fr h₀ L h' m → News h₀ L h' news → Q (.int z ty) {s with heap := h', toks := t'}) :
   wpAny (model pg w) A (call (.ref 174) [.ref x, .str nm tk, v]) Q E s := by
  obtain ⟨KX, T, B', F, N, hA, hf, hke, hroom, hh⟩ := S
  refine wpAny_call ?_
  k_enter
  k_steps
  exact h _ _ (by assumption) (by assumption)
theorem setdef_new (S : Sit w A A₀ base h₀ env outer L m p loose mean mg mb news s.heap 25) (B : Box w news x l d tl its n ps) (hsm : nm.length ≤ 1000) (hclean : ctlIn isCtlN (Txt.lower nm).cps = false) (hc2 : ctlIn isCtlN nm.cps = false) (hvo : VOk v) (hs : ps.length < 1000) (hv : getv ps (Txt.lower nm) = .none)
   (ok : goodV isCtlV v → ∀ h' t' news' its' n', Fr h₀ L h' m → News h₀ L h' news' → Kept l news news' → Box w news' x l d tl its' n' (ps ++ [(nm, v)]) → Q v {s with heap := h', toks := t'})
   (bv : badV isCtlV v → ∀ e t g h' t' news' tk', Fr h₀ L g m → RaisedS base g (env :: outer) e (.type "ValueError") t [.str ctlM tk'] news' h' → g.UpToSlots h' → (∀ q ∈ news, q ∈ news') → E (.ref e) {s with heap := h', toks := t'})
   (ba : badA v → ∀ e t g h' t' news' tk', Fr h₀ L g m → RaisedS base g (env :: outer) e (.type "AssertionError") t [.str (errM v) tk'] news' h' → g.UpToSlots h' → (∀ q ∈ news, q ∈ news') → E (.ref e) {s with heap := h', toks := t'}) :
   wpAny (model pg w) A (call (.ref 174) [.ref x, .str nm tk, v]) Q E s := by
  obtain ⟨KX, T, B', F, N, hA, hf, hke, hroom, hh⟩ := S
  have hlen : nm.length ≤ 2 ^ 24 := by omega
  refine wpAny_call ?_
  k_enter
  k_steps
  · exact ok (by assumption) _ _ _ _ _ (by assumption) (by assumption) (fun q hq hne => (by assumption : Kept l (_ :: news) _) q (.tail _ hq) hne) (by walk_at "box")
  · exact bv (by assumption) _ _ _ _ _ _ _ (by assumption) (by assumption) (by assumption) (by assumption)
  · exact ba (by assumption) _ _ _ _ _ _ _ (by assumption) (by assumption) (by assumption) (by assumption)
end
end
theorem offH15 : True := trivial
end
section
theorem kw28 : True := by
  w_top off
  trivial
theorem by_sub {a b : List (Addr × Obj)} {e1 e2 : Addr × Obj} (h : ∀ q ∈ e1 :: e2 :: a, q ∈ b) : ∀ q ∈ a, q ∈ b := fun q hq => h q (.tail _ (.tail _ hq))
/-- a text that no search for control signs finds fault with -/
def fineU (u : Str) : Prop := ctlIn isCtlV u.cps = false ∧ u.length ≤ 3000
theorem ctlIn_app (c : Nat → Bool) (a b : Str) : ctlIn c (a ++ b).cps = (ctlIn c a.cps || ctlIn c b.cps) := by
  unfold ctlIn
  rw [PySem.Str.cps_append, Array.any_append]
theorem fine_two {y z : Str} (h1 : ctlIn isCtlV y.cps = false) (h2 : y.length ≤ 1000) (h3 : ctlIn isCtlV z.cps = false) (h4 : z.length ≤ 1000) : fineU (Txt.join (Str.ofString "; ") [y, z]) := by
  show fineU ((y ++ Str.ofString "; ") ++ z)
  refine ⟨?_, ?_⟩
  · rw [ctlIn_app, ctlIn_app, h1, h3]
    decide +kernel
  · rw [PySem.Str.length_append, PySem.Str.length_append, show (Str.ofString "; ").length = 2 from by decide +kernel]
    omega
theorem fine_one {y : Str} (h1 : ctlIn isCtlV y.cps = false) (h2 : y.length ≤ 1000) : fineU (Txt.join (Str.ofString "; ") [y]) := ⟨h1, Nat.le_trans h2 (by decide)⟩
theorem fine_nil : fineU (Txt.join (Str.ofString "; ") []) := ⟨by decide +kernel, by decide +kernel⟩
def sixL : List Str := [Str.ofString "x", Str.ofString "", Str.ofString "x\ty", Str.ofString "A", Str.ofString "x\t", Str.ofString "\tx"]
/-- what may be handed in for a parameter -/
def POk (v : Value) : Prop := (∃ s t, v = .str s t ∧ s.length ≤ 1000 ∧ (ctlIn isCtlV s.cps = false → s ∈ sixL)) ∨ (∃ t, v = .int 7 t) ∨ v = .none
theorem over2_of {x₁ x₂ : Str} {M m' : Str → Option Value} (h : ∀ y, y ≠ x₁ → y ≠ x₂ → m' y = M y) : ∃ u₁ u₂, m' = over2 x₁ x₂ u₁ u₂ M := ⟨m' x₁, m' x₂, by
  funext y
  unfold over2
  by_cases e2 : y = x₂
  · rw [if_pos e2, e2]
  · rw [if_neg e2]
    by_cases e1 : y = x₁
    · rw [if_pos e1, e1]
    · rw [if_neg e1]
      exact h y e1 e2⟩
section
variable {w : World} {A A₀ : Around} {E : Value → Shared → Prop} {s : Shared} {h₀ base : Heap} {env : Env} {outer : List Env} {L x l d : Addr} {tl : Tok} {m mg mb : Str → Option Value} {news : List (Addr × Obj)}
   {p : Program} {loose : List Str} {mean : ExcName → Option Value} {Q : Value → Shared → Prop} {nm : Str} {tk : Tok} {its : Array Value} {n : Nat} {ps : List (Str × Value)} {v nv pv : Value}
theorem storeX_P {M : Model} {A : Around} {E : Value → Shared → Prop} {s : Shared} {h₀ : Heap} {L a : Addr} {m : Str → Option Value} {cn : Str} {cs : Scope} {ccd : Value} {cl : List (Str × Addr)} {x : Str} {v : Value} {Q : Unit → Shared → Prop} {news : List (Addr × Obj)} (F : Fr h₀ L s.heap m) (N : News h₀ L s.heap news)
    (h : ∀ h' tk, 0 < tk → Fr h₀ L h' (fun y => if y = x then some v else m y) → News h₀ L h' news → Q () { s with heap := h', toks := tk })
    (hk : cs.kind = .function := by rfl) (hx : (envX cn cs L a ccd cl).kindOf x = some .local := by rfl) : wpAny M A (storeName (envX cn cs L a ccd cl) x v) Q E s :=
  storeX_L F N (fun h' F' N' => h h' _ (Nat.succ_pos _) F' N') hk hx
theorem kw24 : True := by
  k_with "storeName" => (fail_if_success have := @offH16); (k_here; k_dflt (refine' storeX_P ?Fw80 ?Nw80 ?_ ?aw80 ?bw80; (case aw80 => rfl); (case bw80 => rfl); (case Fw80 => k_asm); (case Nw80 => k_asm); k_whole); intro _ _ _ _ _; (try k_sweep))
  trivial
theorem rep1 : Txt.replace (Str.ofString "the_note") (Str.ofString "_") (Str.ofString "-") = Str.ofString "the-note" := by decide +kernel
theorem rep2 : Txt.replace (Str.ofString "via") (Str.ofString "\\") (Str.ofString "\\\\") = Str.ofString "via" := by decide +kernel
theorem rep3 : Txt.replace (Str.ofString "via") (Str.ofString "\"") (Str.ofString "\\\"") = Str.ofString "via" := by decide +kernel
theorem kw25 : True := by
  k_with "call builtin:str.replace" => (fail_if_success have := @offH16); (refine' SC.replaceW ?aw81 ?bw81 ?cw81 ?dw81 ?ew81 ?fw81 ?_; (case aw81 => first | exact Nat.succ_ne_zero _ | exact Nat.ne_of_gt (by assumption)); (case bw81 => exact Nat.succ_ne_zero _); (case cw81 => exact Nat.ne_of_lt (Nat.lt_succ_self _)); (case dw81 => decide +kernel); (case ew81 => decide +kernel); (case fw81 => decide +kernel); intro _ _; (try simp only [rep1, rep2, rep3]))
  trivial
theorem replace_none {prog : Program} {w : World} {A : Around} {E : Value → Shared → Prop} {s : Shared} {x y z : Str} {t u v : Tok} {Q : Value → Shared → Prop} (ho : (PySem.Builtin.Str.occurrences x y 0 x.length (x.length + 1)).isEmpty = true)
    (h : Q (.str x t) s) : wpAny (model prog w) A (call (.builtin "str.replace") [.str x t, .str y u, .str z v]) Q E s := by
  refine call_gives F.slot_str_replace (typeIs_str _ _ _) F.entry_str_replace (F.args_str_replace_3 _ _ _)
    (PySem.gives_str_replace x y z t u v fun e => by rw [ho] at e; cases e) ?_
  rw [ho]
  simp only [Bool.true_or, if_true]
  exact h
theorem kw26 : True := by
  k_with "call builtin:str.replace" => (fail_if_success have := @offH16); (refine' replace_none ?aw82 ?_; (case aw82 => decide +kernel))
  trivial
def quiet (y : Str) : Prop := 0 < y.length ∧ y.length ≤ 3 ∧ (PySem.Builtin.Str.occurrences y (Str.ofString "\\") 0 y.length (y.length + 1)).isEmpty = true ∧ (PySem.Builtin.Str.occurrences y (Str.ofString "\"") 0 y.length (y.length + 1)).isEmpty = true ∧ ctlIn isCtlV y.cps = false
theorem six_facts {y : Str} (hy : y ∈ sixL) : y = Str.ofString "" ∨ quiet y := by
  unfold quiet
  simp only [sixL, List.mem_cons, List.not_mem_nil, or_false] at hy
  rcases hy with rfl | rfl | rfl | rfl | rfl | rfl
  · exact .inr (by decide +kernel)
  · exact .inl rfl
  · exact .inr (by decide +kernel)
  · exact .inr (by decide +kernel)
  · exact .inr (by decide +kernel)
  · exact .inr (by decide +kernel)
theorem kw27 : True := by
  k_with "call builtin:str.replace" => (fail_if_success have := @offH16); (refine' replace_none ?aw83 ?_; (case aw83 => with_reducible assumption))
  trivial
theorem fmt_six {y : Str} {t u : Tok} (S : Sit w A A₀ base h₀ env outer L m p loose mean mg mb news s.heap 5) (hy : y ∈ sixL)
   (h : ∀ h' t' z tz, Fr h₀ L h' m → News h₀ L h' news → z.length ≤ 1000 → ctlIn isCtlV z.cps = false → Q (.str z tz) {s with heap := h', toks := t'}) :
   wpAny (model pg w) A (call (.ref 61) [.str (Str.ofString "the-note") t, .str y u]) Q E s := by
  obtain ⟨KX, T, B', F, N, hA, hf, hke, hroom, hh⟩ := S
  rcases six_facts hy with rfl | ⟨q0, q1, q2, q3, q4⟩
  · refine wpAny_call ?_
    k_enter
    k_steps
    exact h _ _ _ _ (by assumption) (by assumption) (by decide +kernel) (by decide +kernel)
  · have q5 : y.length ≤ 1000 := Nat.le_trans q1 (by decide)
    refine wpAny_call ?_
    k_enter
    k_steps
    refine h _ _ _ _ (by assumption) (by assumption) ?_ ?_
    · have e1 : (Str.empty ++ Str.ofString "the-note" ++ Str.ofString "=\"").length = 10 := by decide +kernel
      have e2 : (Str.ofString "\"").length = 1 := by decide +kernel
      rw [PySem.Str.length_append, PySem.Str.length_append, e1, e2]
      exact Nat.le_trans (Nat.add_le_add_right (Nat.add_le_add_left q1 10) 1) (by decide)
    · rw [ctlIn_app, ctlIn_app, q4]
      decide +kernel
end
theorem offH16 : True := trivial
end
section
theorem kw30 : True := by
  w_top off
  trivial
section
variable {w : World} {A A₀ : Around} {E : Value → Shared → Prop} {s : Shared} {h₀ base : Heap} {env : Env} {outer : List Env} {L : Addr} {m mg mb : Str → Option Value} {news : List (Addr × Obj)}
   {p : Program} {loose : List Str} {mean : ExcName → Option Value} {Q : Value → Shared → Prop}
theorem fmt_any {v : Value} {t : Tok} (S : Sit w A A₀ base h₀ env outer L m p loose mean mg mb news s.heap 5) (hg : goodV (ctlOf false) v) (hp : POk v)
   (h : ∀ h' t' z tz, Fr h₀ L h' m → News h₀ L h' news → z.length ≤ 1000 → ctlIn isCtlV z.cps = false → Q (.str z tz) {s with heap := h', toks := t'}) :
   wpAny (model pg w) A (call (.ref 61) [.str (Str.ofString "the-note") t, v]) Q E s := by
  obtain ⟨y, u, rfl, hc⟩ := hg
  rcases hp with ⟨y', u', e, -, h6⟩ | ⟨u', e⟩ | e
  · cases e
    exact fmt_six S (h6 hc) h
  · cases e
  · cases e
end
theorem POk.vok {v : Value} (h : POk v) : VOk v := by
  rcases h with ⟨s, t, e, hl, -⟩ | h | h
  · exact .inl ⟨s, t, e, hl⟩
  · exact .inr (.inl h)
  · exact .inr (.inr h)
theorem if_join {M : Model} {A : Around} {E : Value → Shared → Prop} {s : Shared} {st : Stmt} {env : Env} {Q : Flow → Shared → Prop} (J : Shared → Prop) (h1 : wpAny M A (exec st env) (fun f s' => f = .next ∧ J s') E s) (h2 : ∀ s', J s' → Q .next s') : wpAny M A (exec st env) Q E s :=
  wpAny_mono h1 (fun f s' h => h.1 ▸ h2 s' h.2) (fun _ _ h => h)
def PartsJ (s : Shared) (g : Heap) (Lx : Addr) (Mx : Str → Option Value) (P : Addr) (r : List (Addr × Obj)) (vv : Value) (s' : Shared) : Prop := ∃ h' tk l0 c, s' = { s with heap := h', toks := tk } ∧ ((l0 = [] ∧ vv = .none) ∨ (l0 = [vv] ∧ goodV isCtlV vv)) ∧ Fr g Lx h' Mx ∧ News g Lx h' ((P, listOf l0.toArray c) :: r)
theorem parts_join {vv : Value} {M : Model} {A : Around} {E : Value → Shared → Prop} {s : Shared} {st : Stmt} {env : Env} {Q : Flow → Shared → Prop} {g : Heap} {Lx P : Addr} {Mx : Str → Option Value} {r : List (Addr × Obj)} {c : Nat} (F : Fr g Lx s.heap Mx) (N : News g Lx s.heap ((P, listOf #[] c) :: r)) (hm : Mx (Str.ofString "_value") = some vv)
   (h1 : wpAny M A (exec st env) (fun f s' => f = .next ∧ PartsJ s g Lx Mx P r vv s') E s)
   (h2 : ∀ h' tk l0 c, ((l0 = [] ∧ vv = .none) ∨ (l0 = [vv] ∧ goodV isCtlV vv)) → Fr g Lx h' Mx → News g Lx h' ((P, listOf l0.toArray c) :: r) → Q .next { s with heap := h', toks := tk }) : wpAny M A (exec st env) Q E s :=
  if_join _ h1 fun s' ⟨h', tk, l0, c, e, hl, F, N⟩ => e ▸ h2 h' tk l0 c hl F N
theorem VOk.plain {v : Value} (h : VOk v) (hn : v ≠ .none) : plainIs v .none = true := by
  rcases h with ⟨_, _, rfl, -⟩ | ⟨_, rfl⟩ | rfl <;> first | rfl | exact absurd rfl hn
/-- what add_header gathers: fine texts, k of them at most -/
def PartsOk (k : Nat) (l : List Value) : Prop := l.length ≤ k ∧ ∀ v ∈ l, ∃ s t, v = .str s t ∧ s.length ≤ 1000 ∧ ctlIn isCtlV s.cps = false
theorem PartsOk.size {k : Nat} {l : List Value} (h : PartsOk k l) (hk : k ≤ 1000) : l.toArray.size ≤ 1000 := Nat.le_trans h.1 hk
theorem PartsOk.push {k : Nat} {l : List Value} (h : PartsOk k l) {s : Str} {t : Tok} (h1 : s.length ≤ 1000) (h2 : ctlIn isCtlV s.cps = false) : PartsOk (k + 1) (l ++ [.str s t]) :=
  ⟨by rw [List.length_append]; exact Nat.succ_le_succ h.1, fun v hv => (List.mem_append.mp hv).elim (h.2 v) fun e => (List.mem_singleton.mp e) ▸ ⟨s, t, rfl, h1, h2⟩⟩
theorem PartsOk.first {vv : Value} {l0 : List Value} (hv : VOk vv) (h : (l0 = [] ∧ vv = .none) ∨ (l0 = [vv] ∧ goodV isCtlV vv)) : PartsOk 1 l0 ∧ (goodV isCtlV vv ∨ vv = .none) := by
  rcases h with ⟨rfl, e⟩ | ⟨rfl, s, t, rfl, hc⟩
  · exact ⟨⟨Nat.zero_le _, fun _ h => nomatch h⟩, .inr e⟩
  · exact ⟨⟨Nat.le_refl _, fun v h => (List.mem_singleton.mp h) ▸ ⟨s, t, rfl, hv.len, hc⟩⟩, .inl ⟨s, t, rfl, hc⟩⟩
theorem join_parts {w : World} {A : Around} {E : Value → Shared → Prop} {s : Shared} {Q : Value → Shared → Prop} {g : Heap} {Lx P : Addr} {Mx : Str → Option Value} {nw : List (Addr × Obj)} {c : Nat} {l1 : List Value} {ts : Tok} (F : Fr g Lx s.heap Mx) (N : News g Lx s.heap nw) (hm : (P, listOf l1.toArray c) ∈ nw) (hp : PartsOk 2 l1)
   (h : ∀ u tu t', fineU u → Q (.str u tu) { s with toks := t' }) : wpAny (model pg w) A (call (.builtin "str.join") [.str (Str.ofString "; ") ts, .ref P]) Q E s := by
  obtain ⟨hl, hp⟩ := hp
  rcases l1 with _ | ⟨a, _ | ⟨b, _ | ⟨c, l1⟩⟩⟩
  · exact join_listW (ys := []) (News.isList N hm) (by repeat constructor) (by decide +kernel) (by decide) fun _ _ => h _ _ _ fine_nil
  · obtain ⟨s1, t1, rfl, h1, h2⟩ := hp _ (List.Mem.head _)
    exact join_listW (ys := [s1]) (News.isList N hm) (by repeat constructor) (by decide +kernel) (Nat.le_trans (Nat.add_le_add_right h1 1) (by decide)) fun _ _ => h _ _ _ (fine_one h2 h1)
  · obtain ⟨s1, t1, rfl, h1, h2⟩ := hp _ (List.Mem.head _)
    obtain ⟨s2, t2, rfl, h3, h4⟩ := hp _ (List.Mem.tail _ (List.Mem.head _))
    exact join_listW (ys := [s1, s2]) (News.isList N hm) (by repeat constructor) (by decide +kernel) (Nat.le_trans (Nat.add_le_add_right (Nat.add_le_add h1 h3) 2) (by decide)) fun _ _ => h _ _ _ (fine_two h2 h1 h4 h3)
  · exact absurd hl (by simp)
/-- the word of add_header's loop over one parameter -/
def PJ (x₁ x₂ : Str) (pl : Addr) (G : Prop) (M : Str → Option Value) (n₀ : List (Addr × Obj)) : Nat → (Str → Option Value) → List (Addr × Obj) → Prop := fun i m' n' => (∃ u₁ u₂, m' = over2 x₁ x₂ u₁ u₂ M) ∧ Kept pl n₀ n' ∧ ((i = 0 ∧ ∃ l c, PartsOk 1 l ∧ (pl, listOf l.toArray c) ∈ n') ∨ (i = 1 ∧ G ∧ ∃ l c, PartsOk 2 l ∧ (pl, listOf l.toArray c) ∈ n'))
section
variable {x₁ x₂ : Str} {pl : Addr} {G : Prop} {M m' : Str → Option Value} {n₀ n' : List (Addr × Obj)} {c : Nat} {l : List Value}
theorem PJ.start (hp : PartsOk 1 l) (h : (pl, listOf l.toArray c) ∈ n₀) : PJ x₁ x₂ pl G M n₀ 0 M n₀ := ⟨⟨_, _, (over2_self _ _ _).symm⟩, fun _ h _ => h, .inl ⟨rfl, _, c, hp, h⟩⟩
theorem PJ.zero (h : PJ x₁ x₂ pl G M n₀ 0 m' n') : ∃ l c, PartsOk 1 l ∧ (pl, listOf l.toArray c) ∈ n' := h.2.2.elim (fun h => h.2) fun h => absurd h.1 (by decide)
theorem PJ.one (h : PJ x₁ x₂ pl G M n₀ 1 m' n') : G ∧ ∃ l c, PartsOk 2 l ∧ (pl, listOf l.toArray c) ∈ n' := h.2.2.elim (fun h => absurd h.1 (by decide)) fun h => h.2
theorem PJ.mono (i : Nat) (m : Str → Option Value) (n n' : List (Addr × Obj)) (I : Addr) (h1 : ∀ p ∈ n₀, p.1 ≠ I) (h2 : ∀ p ∈ n, isIter p.2 = false → p.1 ≠ I) (h3 : PJ x₁ x₂ pl G M n₀ i m n) (h4 : ∀ p ∈ n, p.1 ≠ I → p ∈ n') : PJ x₁ x₂ pl G M n₀ i m n' := by
  obtain ⟨a, b, c⟩ := h3
  refine ⟨a, fun q hq hne => h4 q (b q hq hne) (h1 q hq), ?_⟩
  rcases c with ⟨e, l, c, hl, hm⟩ | ⟨e, g, l, c, hl, hm⟩
  · exact .inl ⟨e, l, c, hl, h4 _ hm (h2 _ hm isIter_list)⟩
  · exact .inr ⟨e, g, l, c, hl, h4 _ hm (h2 _ hm isIter_list)⟩
theorem PJ.last {s : Str} {ts : Tok} (hM : ∀ y, y ≠ x₁ → y ≠ x₂ → m' y = M y) (hK : Kept pl n₀ n') (g : G) (hp : PartsOk 1 l) (h1 : s.length ≤ 1000) (h2 : ctlIn isCtlV s.cps = false) (hm : (pl, listOf (l.toArray.push (.str s ts)) c) ∈ n') : PJ x₁ x₂ pl G M n₀ 1 m' n' :=
  ⟨over2_of hM, hK, .inr ⟨rfl, g, _, c, hp.push h1 h2, by rw [← List.push_toArray]; exact hm⟩⟩
end
theorem Fr.same {g h : Heap} {L : Addr} {M : Str → Option Value} {x : Str} {v : Value} (F : Fr g L h (fun y => if y = x then some v else M y)) (hm : M x = some v) : Fr g L h M := by
  rw [show (fun y => if y = x then some v else M y) = M from funext fun y => by by_cases e : y = x <;> simp [e, hm]] at F
  exact F
theorem kw29 : True := by
  k_with "exec If" => (fail_if_success have := @offH17); ((with_reducible show wpAny _ _ (exec (Stmt.If (Expr.Compare (Expr.Name (Str.ofString "_value") _) _ _ _) _ _ _) _) _ _ _); refine hold_intro ?_)
  k_with "compareOp IsNot" => (fail_if_success have := @offH17); (refine' wpAny_isNot_other ?aw85 ?bw85 ?_; (case aw85 => with_reducible assumption); (case bw85 => with_reducible assumption))
  k_with "call builtin:str.join" => (fail_if_success have := @offH17); (refine' join_parts ?Fw86 ?Nw86 ?mw86 ?pw86 ?_; (case pw86 => with_reducible assumption); (case Fw86 => k_asm); (case Nw86 => k_asm); (case mw86 => k_mem); intro _ _ _ _)
  k_with "storeName" => (fail_if_success have := @offH17); (k_here; k_dflt (refine' storeX_P ?Fw87 ?Nw87 ?_ ?aw87 ?bw87; (case aw87 => rfl); (case bw87 => rfl); (case Fw87 => k_asm); (case Nw87 => k_asm); k_whole); intro _ _ _ _ _; (try k_sweep))
  k_with "call builtin:str.replace" => (fail_if_success have := @offH17); (refine' SC.replaceW ?aw88 ?bw88 ?cw88 ?dw88 ?ew88 ?fw88 ?_; (case aw88 => first | exact Nat.succ_ne_zero _ | exact Nat.ne_of_gt (by assumption)); (case bw88 => exact Nat.succ_ne_zero _); (case cw88 => exact Nat.ne_of_lt (Nat.lt_succ_self _)); (case dw88 => decide +kernel); (case ew88 => decide +kernel); (case fw88 => decide +kernel); intro _ _; (try simp only [rep1, rep2, rep3]))
  k_with "call builtin:str.replace" => (fail_if_success have := @offH17); (refine' replace_none ?aw89 ?_; (case aw89 => decide +kernel))
  k_with "call ref" => (fail_if_success have := @offH17); ((with_reducible show wpAny _ _ (call (Value.ref 61) _ _) _ _ _); k_dflt (refine' fmt_six ?Sw90 ?hyw90 ?_; (case Sw90 => walk_at "mk_sit"); (case hyw90 => with_reducible assumption); k_whole); intro _ _ _ _ _ _ _ _)
  k_with "leaving ref" => (fail_if_success have := @offH17); (k_here; (refine' leave_heldS ?k3w91 ?k2w91 ?k4w91 ?_; (case k3w91 => assumption); (case k2w91 => assumption); (case k4w91 => assumption); k_whole; intro _ S' R' U'; (try dsimp only at S' R' U' ⊢); (revert S' R' U'; intro _ _ _)))
  k_with "exec If" => (fail_if_success have := @offH17); ((with_reducible show wpAny _ _ (exec (Stmt.If (Expr.Compare (Expr.Name (Str.ofString "v") _) _ _ _) _ _ _) _) _ _ _); refine hold_intro ?_)
  k_with "compareOp Is" => (fail_if_success have := @offH17); (refine' wpAny_is_other ?aw93 ?bw93 ?_; (case aw93 => with_reducible assumption); (case bw93 => with_reducible assumption))
  k_with "call ref" => (fail_if_success have := @offH17); ((with_reducible show wpAny _ _ (call (Value.ref 61) _ _) _ _ _); k_dflt (refine' fmt_any ?Sw94 ?hgw94 ?hpw94 ?_; (case Sw94 => walk_at "mk_sit"); (case hgw94 => with_reducible assumption); (case hpw94 => with_reducible assumption); k_whole); intro _ _ _ _ _ _ _ _)
  trivial
section
variable {w : World} {A A₀ : Around} {E : Value → Shared → Prop} {s : Shared} {h₀ base : Heap} {env : Env} {outer : List Env} {L x l d : Addr} {tl : Tok} {m mg mb : Str → Option Value} {news : List (Addr × Obj)}
   {p : Program} {loose : List Str} {mean : ExcName → Option Value} {Q : Value → Shared → Prop} {nm y : Str} {tk ty : Tok} {its : Array Value} {n : Nat} {ps : List (Str × Value)} {v nv pv : Value}
theorem add_any0 {vv : Value} (S : Sit w A A₀ base h₀ env outer L m p loose mean mg mb news s.heap 20) (B : Box w news x l d tl its n ps) (hv : VOk vv) (hn : VOk nv) (hs : ps.length < 1000)
   (ok : goodV isCtlV vv ∨ vv = .none → ∀ nm tn, nv = .str nm tn → ctlIn isCtlN nm.cps = false → ∀ h' t' news' its' n' u tu, Fr h₀ L h' m → News h₀ L h' news' → Kept l news news' → Box w news' x l d tl its' n' (ps ++ [(nm, .str u tu)]) → fineU u → Q .none {s with heap := h', toks := t'})
   (vb : badV isCtlV vv → ∀ e t g h' t' news' tk', Fr h₀ L g m → RaisedS base g (env :: outer) e (.type "ValueError") t [.str ctlM tk'] news' h' → g.UpToSlots h' → (∀ q ∈ news, q ∈ news') → E (.ref e) {s with heap := h', toks := t'})
   (va : badA vv → vv ≠ .none → ∀ e t g h' t' news' tk', Fr h₀ L g m → RaisedS base g (env :: outer) e (.type "AssertionError") t [.str (errM vv) tk'] news' h' → g.UpToSlots h' → (∀ q ∈ news, q ∈ news') → E (.ref e) {s with heap := h', toks := t'})
   (bv : goodV isCtlV vv ∨ vv = .none → badV isCtlN nv → ∀ e t g h' t' news' tk', Fr h₀ L g m → RaisedS base g (env :: outer) e (.type "ValueError") t [.str ctlM tk'] news' h' → g.UpToSlots h' → (∀ q ∈ news, q ∈ news') → E (.ref e) {s with heap := h', toks := t'})
   (ba : goodV isCtlV vv ∨ vv = .none → badA nv → ∀ e t g h' t' news' tk', Fr h₀ L g m → RaisedS base g (env :: outer) e (.type "AssertionError") t [.str (errM nv) tk'] news' h' → g.UpToSlots h' → (∀ q ∈ news, q ∈ news') → E (.ref e) {s with heap := h', toks := t'}) :
   wpAny (model pg w) A (call (.ref 181) [.ref x, nv, vv]) Q E s := by
  obtain ⟨KX, T, B', F, N, hA, hf, hke, hroom, hh⟩ := S
  refine wpAny_call ?_
  walk_at "enter_more"
  k_steps
  refine hold_elim ?_
  rename Obj.IsDictOf .. => hs'
  rename (_ ∧ AllLt _ _) => z1
  have lt0 := kst_ltOf z1.2
  refine' parts_join (vv := vv) ?F ?N ?hm ?h1 ?h2
  case F => k_asm
  case N => k_asm
  case hm => rfl
  case h1 =>
    refine wpAny_If ?_
    by_cases hvn : vv = .none
    · subst hvn
      k_steps
      all_goals first | trivial | exact ⟨_, _, _, _, rfl, .inl ⟨rfl, rfl⟩, by assumption, by assumption⟩
    · have hvp := hv.plain hvn
      k_steps
      · trivial
      · exact ⟨_, _, [vv], _, rfl, .inr ⟨rfl, by assumption⟩, Fr.same (by assumption) rfl, by assumption⟩
      · exact vb (by assumption) _ _ _ _ _ _ _ (by assumption) (by assumption) (by assumption) (fun q hq => by_sub (by assumption) q hq)
      · exact va (by assumption) hvn _ _ _ _ _ _ _ (by assumption) (by assumption) (by assumption) (fun q hq => by_sub (by assumption) q hq)
  case h2 =>
    intro h' tk' l0 c hl F' N'
    obtain ⟨hp0, hgv⟩ := PartsOk.first hv hl
    clear hl
    dsimp only
    k_steps
    refine hold_elim ?_
    refine' for_items_exec (KeepJ _ _) ?hh ?F ?N ?hbase ?hline ?ho ?hlo hs' ?hJ ?hl ?j0 ?turn ?done
    case hh => exact hh
    case F => k_asm
    case N => k_asm
    case j0 => exact KeepJ.start
    case hbase => rfl
    case hline => rfl
    case hlo => assumption
    case hJ => exact KeepJ.mono
    case hl => exact fun i m n h => h.2 _ (by k_mem)
    case ho => intro Q' hQ'; k_steps; exact hQ'
    case turn => intro i k v key t m₁ n₁ h tk it e; simp at e
    case done =>
      rintro m₁ n₁ h₂ tk₂ ⟨rfl, hsub⟩ F' N'
      have N' := news_mono N' hsub
      clear hsub
      have hp1 : PartsOk 2 l0 := ⟨Nat.le_succ_of_le hp0.1, hp0.2⟩
      k_steps
      · exact ok hgv _ _ rfl (by assumption) _ _ _ _ _ _ _ (by assumption) (by assumption) (fun q hq hne => (by assumption : Kept l (_ :: _ :: _ :: news) _) q (.tail _ (.tail _ (.tail _ hq))) hne) (by walk_at "box") (by assumption)
      · exact bv hgv (by assumption) _ _ _ _ _ _ _ (by assumption) (by assumption) (by assumption) (fun q hq => by_sub (by assumption) q hq)
      · exact ba hgv (by assumption) _ _ _ _ _ _ _ (by assumption) (by assumption) (by assumption) (fun q hq => by_sub (by assumption) q hq)
theorem add_anyP {vv : Value} (S : Sit w A A₀ base h₀ env outer L m p loose mean mg mb news s.heap 20) (B : Box w news x l d tl its n ps) (hv : VOk vv) (hn : VOk nv) (hpv : POk pv) (hs : ps.length < 1000)
   (ok : goodV isCtlV vv ∨ vv = .none → goodV isCtlV pv ∨ pv = .none → ∀ nm tn, nv = .str nm tn → ctlIn isCtlN nm.cps = false → ∀ h' t' news' its' n' u tu, Fr h₀ L h' m → News h₀ L h' news' → Kept l news news' → Box w news' x l d tl its' n' (ps ++ [(nm, .str u tu)]) → fineU u → Q .none {s with heap := h', toks := t'})
   (vb : badV isCtlV vv → ∀ e t g h' t' news' tk', Fr h₀ L g m → RaisedS base g (env :: outer) e (.type "ValueError") t [.str ctlM tk'] news' h' → g.UpToSlots h' → (∀ q ∈ news, q ∈ news') → E (.ref e) {s with heap := h', toks := t'})
   (va : badA vv → vv ≠ .none → ∀ e t g h' t' news' tk', Fr h₀ L g m → RaisedS base g (env :: outer) e (.type "AssertionError") t [.str (errM vv) tk'] news' h' → g.UpToSlots h' → (∀ q ∈ news, q ∈ news') → E (.ref e) {s with heap := h', toks := t'})
   (pb : goodV isCtlV vv ∨ vv = .none → badV isCtlV pv → ∀ e t g h' t' news' tk', Fr h₀ L g m → RaisedS base g (env :: outer) e (.type "ValueError") t [.str ctlM tk'] news' h' → g.UpToSlots h' → (∀ q ∈ news, q ∈ news') → E (.ref e) {s with heap := h', toks := t'})
   (pa : goodV isCtlV vv ∨ vv = .none → badA pv → pv ≠ .none → ∀ e t g h' t' news' tk', Fr h₀ L g m → RaisedS base g (env :: outer) e (.type "AssertionError") t [.str (errM pv) tk'] news' h' → g.UpToSlots h' → (∀ q ∈ news, q ∈ news') → E (.ref e) {s with heap := h', toks := t'})
   (bv : goodV isCtlV vv ∨ vv = .none → goodV isCtlV pv ∨ pv = .none → badV isCtlN nv → ∀ e t g h' t' news' tk', Fr h₀ L g m → RaisedS base g (env :: outer) e (.type "ValueError") t [.str ctlM tk'] news' h' → g.UpToSlots h' → (∀ q ∈ news, q ∈ news') → E (.ref e) {s with heap := h', toks := t'})
   (ba : goodV isCtlV vv ∨ vv = .none → goodV isCtlV pv ∨ pv = .none → badA nv → ∀ e t g h' t' news' tk', Fr h₀ L g m → RaisedS base g (env :: outer) e (.type "AssertionError") t [.str (errM nv) tk'] news' h' → g.UpToSlots h' → (∀ q ∈ news, q ∈ news') → E (.ref e) {s with heap := h', toks := t'}) :
   wpAny (model pg w) A (call (.ref 181) [.ref x, nv, vv] [(Str.ofString "the_note", pv)]) Q E s := by
  obtain ⟨KX, T, B', F, N, hA, hf, hke, hroom, hh⟩ := S
  have k9 : (Str.ofString "the-note").length ≤ 1000 := by decide +kernel
  have k8 : ctlIn isCtlV (Str.ofString "the-note").cps = false := by decide +kernel
  have k3 : (Str.ofString "the_note").length ≤ 2 ^ 24 := by decide +kernel
  have k4 : ctlIn isCtlN (Str.ofString "the_note").cps = false := by decide +kernel
  have hz0 : (0 : Int) ≤ 7 := by decide
  have hz1 : (7 : Int) < 12 := by decide
  have hzy : (Str.ofString (toString (7 : Int))).length ≤ 100000 := by decide +kernel
  obtain ⟨dp, hfl⟩ : ∃ dp, PyProof.V.Flat pv dp := by
    rcases hpv with ⟨sp, tp, rfl, -, -⟩ | ⟨tp, rfl⟩ | rfl
    · exact ⟨_, PyProof.V.Flat.str _ _⟩
    · exact ⟨_, PyProof.V.Flat.int _ _⟩
    · exact ⟨_, PyProof.V.Flat.none⟩
  refine wpAny_call ?_
  walk_at "enter_more"
  k_steps
  refine hold_elim ?_
  rename Obj.IsDictOf .. => hs'
  rename (_ ∧ AllLt _ _) => z1
  have lt0 := kst_ltOf z1.2
  refine' parts_join (vv := vv) ?F ?N ?hm ?h1 ?h2
  case F => k_asm
  case N => k_asm
  case hm => rfl
  case h1 =>
    refine wpAny_If ?_
    by_cases hvn : vv = .none
    · subst hvn
      k_steps
      all_goals first | trivial | exact ⟨_, _, _, _, rfl, .inl ⟨rfl, rfl⟩, by assumption, by assumption⟩
    · have hvp := hv.plain hvn
      k_steps
      · trivial
      · exact ⟨_, _, [vv], _, rfl, .inr ⟨rfl, by assumption⟩, Fr.same (by assumption) rfl, by assumption⟩
      · exact vb (by assumption) _ _ _ _ _ _ _ (by assumption) (by assumption) (by assumption) (fun q hq => by_sub (by assumption) q hq)
      · exact va (by assumption) hvn _ _ _ _ _ _ _ (by assumption) (by assumption) (by assumption) (fun q hq => by_sub (by assumption) q hq)
  case h2 =>
    intro h' tk' l0 c hl F' N'
    obtain ⟨hp0, hgv⟩ := PartsOk.first hv hl
    clear hl
    dsimp only
    k_steps
    refine hold_elim ?_
    refine' for_items_exec (PJ (Str.ofString "k") (Str.ofString "v") _ (goodV isCtlV pv ∨ pv = .none) _ _) ?hh ?F ?N ?hbase ?hline ?ho ?hlo hs' ?hJ ?hl ?j0 ?turn ?done
    case hh => exact hh
    case F => k_asm
    case N => k_asm
    case ho => intro Q' hQ'; k_steps; exact hQ'
    case j0 => exact PJ.start hp0 (List.Mem.head _)
    case hbase => rfl
    case hline => rfl
    case hlo => assumption
    case hJ => exact PJ.mono
    case hl => exact fun i m n h => h.2.1 _ (by k_mem) (Nat.ne_of_lt z1.1)
    case turn =>
      rintro i k v2 key t m₁ n₁ h₂ tk₂ it e hkey ht hJ him hit F' N'
      cases i with
      | succ i => simp at e
      | zero =>
        cases e
        obtain ⟨l1, c, hp1, hm⟩ := hJ.zero
        obtain ⟨⟨u₁, u₂, rfl⟩, hK, -⟩ := hJ
        obtain ⟨tkk, rfl⟩ := Value.isStrOf_shape hkey
        have B1 := B.mono (news' := n₁) fun q hq => hK q (.tail _ (.tail _ hq)) (Nat.ne_of_lt (lt0 q hq))
        have hip := iter_ne N' him hit hm isIter_list
        have hne1 : l ≠ _ := Nat.ne_of_lt (lt0 _ B.hl)
        have hsz1 := hp1.size (by decide)
        refine assign_pair hh F' N' ht rfl rfl rfl ?_
        intro h₃ tk₃ F' N'
        k_steps
        refine hold_elim ?_
        refine wpAny_If ?_
        by_cases hpn : pv = .none
        · subst hpn
          k_steps
          refine ⟨_, _, _, _, rfl, by assumption, by assumption, (by assumption : Kept _ n₁ _) _ hit hip, PJ.last (fun y h1 h2 => by simp only [if_neg h1, if_neg h2, over2]) (fun q hq hne => (by assumption : Kept _ n₁ _) q (hK q hq hne) hne) (.inr (by first | rfl | trivial)) hp1 k9 k8 (by assumption)⟩
        · have hpv2 := hpv.vok
          have hpp := hpv2.plain hpn
          k_steps
          · refine ⟨_, _, _, _, rfl, by assumption, by assumption, (by assumption : Kept _ n₁ _) _ hit hip, PJ.last (fun y h1 h2 => by simp only [if_neg h1, if_neg h2, over2]) (fun q hq hne => (by assumption : Kept _ n₁ _) q (hK q hq hne) hne) (.inl (by assumption)) hp1 (by assumption) (by assumption) (by assumption)⟩
          · refine noted_back (Around.frames_deeper (Below.stack (by assumption))) (by assumption) (by assumption) ?_
            intro h₅ RH U5
            k_steps
            exact pb hgv (by assumption) _ _ _ _ _ _ _ (by assumption) (by assumption) (by assumption) (fun q hq => (by assumption : ∀ q ∈ n₁, q ∈ _) q (hK q (.tail _ (.tail _ hq)) (Nat.ne_of_lt (lt0 q hq))))
          · refine noted_back (Around.frames_deeper (Below.stack (by assumption))) (by assumption) (by assumption) ?_
            intro h₅ RH U5
            k_steps
            exact pa hgv (by assumption) hpn _ _ _ _ _ _ _ (by assumption) (by assumption) (by assumption) (fun q hq => (by assumption : ∀ q ∈ n₁, q ∈ _) q (hK q (.tail _ (.tail _ hq)) (Nat.ne_of_lt (lt0 q hq))))
    case done =>
      rintro m₁ n₁ h₂ tk₂ hJ F' N'
      obtain ⟨hg, l1, c, hp1, hm⟩ := hJ.one
      obtain ⟨⟨u₁, u₂, rfl⟩, hK, -⟩ := hJ
      have B1 := B.mono (news' := n₁) fun q hq => hK q (.tail _ (.tail _ hq)) (Nat.ne_of_lt (lt0 q hq))
      replace N' : News _ _ h₂ (_ :: n₁) := fun q hq => (List.mem_cons.mp hq).elim (fun e => e ▸ N' _ hm) (N' q)
      k_steps
      · exact ok hgv hg _ _ rfl (by assumption) _ _ _ _ _ _ _ (by assumption) (by assumption) (fun q hq hne => (by assumption : Kept l (_ :: _ :: n₁) _) q (.tail _ (.tail _ (hK q (.tail _ (.tail _ hq)) (Nat.ne_of_lt (lt0 q hq))))) hne) (by walk_at "box") (by assumption)
      · exact bv hgv hg (by assumption) _ _ _ _ _ _ _ (by assumption) (by assumption) (by assumption) (fun q hq => (by assumption : ∀ q ∈ _ :: n₁, q ∈ _) q (.tail _ (hK q (.tail _ (.tail _ hq)) (Nat.ne_of_lt (lt0 q hq)))))
      · exact ba hgv hg (by assumption) _ _ _ _ _ _ _ (by assumption) (by assumption) (by assumption) (fun q hq => (by assumption : ∀ q ∈ _ :: n₁, q ∈ _) q (.tail _ (hK q (.tail _ (.tail _ hq)) (Nat.ne_of_lt (lt0 q hq)))))
end
theorem offH17 : True := trivial
end
section
theorem kw32 : True := by
  w_top off
  trivial
/-- what may stand in a pair -/
def VBig (v : Value) : Prop := (∃ s t, v = .str s t ∧ s.length ≤ 3000) ∨ (∃ t, v = .int 7 t) ∨ v = .none
/-- a pair that a copy lets pass -/
def goodPr (q : Str × Value) : Prop := ctlIn isCtlN q.1.cps = false ∧ goodV isCtlV q.2
/-- the word of the loop of __init__ -/
def InitJ (x₁ x₂ : Str) (ps : List (Str × Value)) (M : Str → Option Value) (n₀ : List (Addr × Obj)) : Nat → (Str → Option Value) → List (Addr × Obj) → Prop := fun i m n => Keep2 x₁ x₂ M n₀ i m n ∧ ∀ j < i, ∀ q, ps[j]? = some q → goodPr q
theorem InitJ.start {x₁ x₂ : Str} {ps : List (Str × Value)} {M : Str → Option Value} {n₀ : List (Addr × Obj)} : InitJ x₁ x₂ ps M n₀ 0 M n₀ := ⟨Keep2.start, fun j hj => absurd hj (Nat.not_lt_zero _)⟩
theorem InitJ.mono {x₁ x₂ : Str} {ps : List (Str × Value)} {M : Str → Option Value} {n₀ : List (Addr × Obj)} (i : Nat) (m : Str → Option Value) (n n' : List (Addr × Obj)) (I : Addr) (h1 : ∀ p ∈ n₀, p.1 ≠ I) (h2 : ∀ p ∈ n, isIter p.2 = false → p.1 ≠ I) (h3 : InitJ x₁ x₂ ps M n₀ i m n) (h4 : ∀ p ∈ n, p.1 ≠ I → p ∈ n') : InitJ x₁ x₂ ps M n₀ i m n' := ⟨Keep2.mono i m n n' I h1 h2 h3.1 h4, h3.2⟩
theorem good_snoc {ps : List (Str × Value)} {i : Nat} {q : Str × Value} (h : ∀ j < i, ∀ q, ps[j]? = some q → goodPr q) (e : ps[i]? = some q) (g : goodPr q) : ∀ j < i + 1, ∀ q, ps[j]? = some q → goodPr q := fun j hj q' e' => by
  rcases Nat.lt_succ_iff_lt_or_eq.mp hj with h1 | rfl
  · exact h j h1 q' e'
  · rw [e] at e'
    cases e'
    exact g
theorem good_all {ps : List (Str × Value)} {k : Nat} (h : ∀ j < k, ∀ q, ps[j]? = some q → goodPr q) (e : k = ps.length) : ∀ q ∈ ps, goodPr q := fun q hq => by
  obtain ⟨j, hj, rfl⟩ := List.mem_iff_getElem.mp hq
  exact h j (e ▸ hj) _ (List.getElem?_eq_getElem hj)
theorem bad_not {v : Value} (h : badV isCtlV v) : ¬ goodV isCtlV v := by
  rintro ⟨s, t, rfl, hg⟩
  obtain ⟨s', t', e, hb⟩ := h
  cases e
  rw [hg] at hb
  cases hb
theorem badA_not {v : Value} (h : badA v) : ¬ goodV isCtlV v := by
  rintro ⟨s, t, rfl, hg⟩
  rcases h with ⟨t', e⟩ | e <;> cases e
section
variable {w : World} {A A₀ : Around} {E : Value → Shared → Prop} {s : Shared} {h₀ base : Heap} {env : Env} {outer : List Env} {L x l : Addr} {m mg mb : Str → Option Value} {news : List (Addr × Obj)}
   {p : Program} {loose : List Str} {mean : ExcName → Option Value} {Q : Value → Shared → Prop} {nm : Str} {tk : Tok} {its : Array Value} {n : Nat} {ps : List (Str × Value)}
theorem conv_big {v : Value} (S : Sit w A A₀ base h₀ env outer L m p loose mean mg mb news s.heap 5) (hv : VBig v)
   (ok : goodV isCtlV v → ∀ h' t', Fr h₀ L h' m → News h₀ L h' news → Q v {s with heap := h', toks := t'})
   (bv : badV isCtlV v → ∀ e t g h' t' news' tk', Fr h₀ L g m → RaisedS base g (env :: outer) e (.type "ValueError") t [.str ctlM tk'] news' h' → g.UpToSlots h' → (∀ q ∈ news, q ∈ news') → E (.ref e) {s with heap := h', toks := t'})
   (ba : badA v → ∀ e t g h' t' news' tk', Fr h₀ L g m → RaisedS base g (env :: outer) e (.type "AssertionError") t [.str (errM v) tk'] news' h' → g.UpToSlots h' → (∀ q ∈ news, q ∈ news') → E (.ref e) {s with heap := h', toks := t'}) :
   wpAny (model pg w) A (call (.ref 83) [.ref x, v] [(Str.ofString "name", .bool false)]) Q E s := by
  rcases hv with ⟨s, t, rfl, hl⟩ | ⟨t, rfl⟩ | rfl
  · cases hc : ctlIn isCtlV s.cps with
    | false => exact conv_val S (by omega) hc (ok ⟨s, t, rfl, hc⟩)
    | true => exact conv_val_bad S (by omega) hc (bv ⟨s, t, rfl, hc⟩)
  · exact conv_int_bad S (by decide) (by decide) (by decide +kernel) (ba (.inl ⟨t, rfl⟩))
  · exact conv_none_bad S (ba (.inr rfl))
theorem kw31 : True := by
  k_with "call ref" => (fail_if_success have := @offH21); ((with_reducible show wpAny _ _ (call (Value.ref 83) [_, Value.str _ _] (List.zip _ [Value.bool true])) _ _ _); k_dflt (refine' conv_name ?Sw95 ?kaw95 ?kbw95 ?_; (case kbw95 => with_reducible assumption); (case Sw95 => walk_at "mk_sit"); (case kaw95 => with_reducible assumption); k_whole); intro _ _ _ _)
  k_with "call ref" => (fail_if_success have := @offH21); ((with_reducible show wpAny _ _ (call (Value.ref 83) [_, Value.str _ _] (List.zip _ [Value.bool true])) _ _ _); k_dflt (refine' conv_name_bad ?Sw96 ?kaw96 ?kbw96 ?_; (case kbw96 => with_reducible assumption); (case Sw96 => walk_at "mk_sit"); (case kaw96 => with_reducible assumption); k_whole); intro _ _ _ _ _ _ _ _ _ _ _)
  k_with "call ref" => (fail_if_success have := @offH21); ((with_reducible show wpAny _ _ (call (Value.ref 83) [_, _] (List.zip _ [Value.bool false])) _ _ _); k_dflt (refine' conv_big ?Sw97 ?hvw97 ?_ ?_ ?_; (case Sw97 => walk_at "mk_sit"); (case hvw97 => with_reducible assumption)); intro _ _ _ _ _; rotate_left; intro _ _ _ _ _ _ _ _ _ _ _ _; rotate_left; intro _ _ _ _ _ _ _ _ _ _ _ _; rotate_left)
  k_with "leaving ref" => (fail_if_success have := @offH21); (k_here; (refine' leave_heldS ?k3w98 ?k2w98 ?k4w98 ?_; (case k3w98 => assumption); (case k2w98 => assumption); (case k4w98 => assumption); k_whole; intro _ S' R' U'; (try dsimp only at S' R' U' ⊢); (revert S' R' U'; intro _ _ _)))
  trivial
theorem init_any (S : Sit w A A₀ base h₀ env outer L m p loose mean mg mb news s.heap 15) (hl : (l, listOf its n) ∈ news) (hsz : its.size ≤ 1000) (P : PairsN news its.toList ps) (hall : ∀ q ∈ ps, VBig q.2)
   (ok : (∀ q ∈ ps, goodPr q) → ∀ x d h' t' tl, Fr h₀ L h' m → News h₀ L h' ((x, instObj 184 d) :: (d, dictOf [⟨PyData.keyHash w.params (Str.ofString "_headers"), .str (Str.ofString "_headers") tl, .ref l⟩] 1) :: news) → (∀ q ∈ news, q.1 < d) → d < x → Q (.ref x) {s with heap := h', toks := t'})
   (bv : (¬ ∀ q ∈ ps, goodPr q) → ∀ e t g h' t' news' tk', Fr h₀ L g m → RaisedS base g (env :: outer) e (.type "ValueError") t [.str ctlM tk'] news' h' → g.UpToSlots h' → (∀ q ∈ news, q ∈ news') → E (.ref e) {s with heap := h', toks := t'})
   (ba : (¬ ∀ q ∈ ps, goodPr q) → ∀ e t g h' t' news' v tk', badA v → Fr h₀ L g m → RaisedS base g (env :: outer) e (.type "AssertionError") t [.str (errM v) tk'] news' h' → g.UpToSlots h' → (∀ q ∈ news, q ∈ news') → E (.ref e) {s with heap := h', toks := t'}) :
   wpAny (model pg w) A (call (.ref 184) [.ref l]) Q E s := by
  obtain ⟨KX, T, B, F, N, hA, hf, hke, hroom, hh⟩ := S
  k_steps
  refine hold_elim ?_
  refine wpAny_For ?_
  k_steps
  refine' for_list (l := l) (its := its) (n := n) (InitJ (Str.ofString "k") (Str.ofString "v") ps _ _) ?hh ?F ?N ?hJ ?hl ?j0 ?turn ?done
  case hh => exact hh
  case F => k_asm
  case N => k_asm
  case j0 => exact InitJ.start
  case hJ => exact InitJ.mono
  case hl => exact fun i m n h => h.1.2 _ (.tail _ (.tail _ hl))
  case turn =>
    rintro i v m₁ n₁ h₂ tk₂ it e ⟨⟨⟨u₁, u₂, rfl⟩, hsub⟩, hgood⟩ hit him F' N'
    obtain ⟨t, nm, tk, val, rfl, ht, hsm, hps⟩ := P.at_ i v (by rw [Array.getElem?_toList]; exact e)
    have hv : VBig val := hall _ (List.mem_of_getElem? hps)
    have hlen1 : nm.length ≤ 2 ^ 24 := by omega
    have N' := news_mono N' (cons_sub him hsub)
    clear him hsub
    refine assign_pair hh F' N' (.tail _ (.tail _ (.tail _ ht))) rfl rfl rfl ?_
    intro h₃ tk₃ F' N'
    cases hc : ctlIn isCtlN nm.cps with
    | true =>
      k_steps
      refine noted_back (Around.frames_deeper (Below.stack (by assumption))) (by assumption) (by assumption) ?_
      intro h₅ RH U5
      k_steps
      rename RaisedS _ _ _ _ _ _ _ _ _ => R
      refine bv (fun hg => ?_) _ _ _ _ _ _ _ (by assumption) R (by assumption) (fun q hq => (by assumption : ∀ q ∈ _ :: _ :: _ :: news, q ∈ _) q (.tail _ (.tail _ (.tail _ hq))))
      have := (hg _ (List.mem_of_getElem? hps)).1
      rw [hc] at this
      cases this
    | false =>
      k_steps
      · refine ⟨_, _, _, _, rfl, by assumption, by assumption, .head _, ⟨⟨_, _, over2_over⟩, fun p hp => .tail _ hp⟩, good_snoc hgood hps ⟨hc, by assumption⟩⟩
      · refine noted_back (Around.frames_deeper (Below.stack (by assumption))) (by assumption) (by assumption) ?_
        intro h₅ RH U5
        k_steps
        rename RaisedS _ _ _ _ _ _ _ _ _ => R
        exact bv (fun hg => bad_not (by assumption) (hg _ (List.mem_of_getElem? hps)).2) _ _ _ _ _ _ _ (by assumption) R (by assumption) (fun q hq => (by assumption : ∀ q ∈ _ :: _ :: _ :: news, q ∈ _) q (.tail _ (.tail _ (.tail _ hq))))
      · refine noted_back (Around.frames_deeper (Below.stack (by assumption))) (by assumption) (by assumption) ?_
        intro h₅ RH U5
        k_steps
        rename RaisedS _ _ _ _ _ _ _ _ _ => R
        exact ba (fun hg => badA_not (by assumption) (hg _ (List.mem_of_getElem? hps)).2) _ _ _ _ _ _ _ _ (by assumption) (by assumption) R (by assumption) (fun q hq => (by assumption : ∀ q ∈ _ :: _ :: _ :: news, q ∈ _) q (.tail _ (.tail _ (.tail _ hq))))
  case done =>
    rintro m₁ n₁ h₂ tk₂ ⟨⟨⟨u₁, u₂, rfl⟩, hsub⟩, hgood⟩ F' N'
    have N' := news_mono N' hsub
    clear hsub
    k_steps
    exact ok (good_all hgood (by have := P.length; rw [Array.length_toList] at this; exact this)) _ _ _ _ _ (by assumption) (by assumption) (by assumption) (by assumption)
end
theorem offH21 : True := trivial
end
section
theorem kw33 : True := by
  w_top off
  trivial
section
variable {w : World} {A A₀ : Around} {E : Value → Shared → Prop} {s : Shared} {h₀ base : Heap} {env : Env} {outer : List Env} {L x l d : Addr} {tl : Tok} {m mg mb : Str → Option Value} {news : List (Addr × Obj)}
   {p : Program} {loose : List Str} {mean : ExcName → Option Value} {Q : Value → Shared → Prop}
theorem init_new0 (S : Sit w A A₀ base h₀ env outer L m p loose mean mg mb news s.heap 15)
   (ok : ∀ l x d h' t' tl, Fr h₀ L h' m → News h₀ L h' ((l, listOf #[] 0) :: (x, instObj 184 d) :: (d, dictOf [⟨PyData.keyHash w.params (Str.ofString "_headers"), .str (Str.ofString "_headers") tl, .ref l⟩] 1) :: news) → (∀ q ∈ news, q.1 < d) → d < x → x < l → Q (.ref x) {s with heap := h', toks := t'}) :
   wpAny (model pg w) A (call (.ref 184) []) Q E s := by
  obtain ⟨KX, T, B, F, N, hA, hf, hke, hroom, hh⟩ := S
  k_steps
  refine hold_elim ?_
  refine wpAny_For ?_
  k_steps
  refine' for_list (its := #[]) (n := 0) (InitJ (Str.ofString "k") (Str.ofString "v") [] _ _) ?hh ?F ?N ?hJ ?hl ?j0 ?turn ?done
  case hh => exact hh
  case F => k_asm
  case N => k_asm
  case j0 => exact InitJ.start
  case hJ => exact InitJ.mono
  case hl => exact fun i m n h => h.1.2 _ (by k_mem)
  case turn => exact fun i v m₁ n₁ h tk it e => nomatch e
  case done =>
    rintro m₁ n₁ h₂ tk₂ ⟨⟨⟨u₁, u₂, rfl⟩, hsub⟩, hgood⟩ F' N'
    have N' := news_mono N' hsub
    clear hsub
    k_steps
    rename _ < _ ∧ _ < _ ∧ AllLt _ _ => lA
    exact ok _ _ _ _ _ _ (by assumption) (by assumption) (by assumption) (by assumption) lA.1
theorem init_new1 (S : Sit w A A₀ base h₀ env outer L m p loose mean mg mb news s.heap 15)
   (ok : ∀ l x d h' t' tl, Fr h₀ L h' m → News h₀ L h' ((l, listOf #[] 0) :: (x, instObj 184 d) :: (d, dictOf [⟨PyData.keyHash w.params (Str.ofString "_headers"), .str (Str.ofString "_headers") tl, .ref l⟩] 1) :: news) → (∀ q ∈ news, q.1 < d) → d < x → x < l → Q (.ref x) {s with heap := h', toks := t'}) :
   wpAny (model pg w) A (call (.ref 184) [.none]) Q E s := by
  obtain ⟨KX, T, B, F, N, hA, hf, hke, hroom, hh⟩ := S
  k_steps
  refine hold_elim ?_
  refine wpAny_For ?_
  k_steps
  refine' for_list (its := #[]) (n := 0) (InitJ (Str.ofString "k") (Str.ofString "v") [] _ _) ?hh ?F ?N ?hJ ?hl ?j0 ?turn ?done
  case hh => exact hh
  case F => k_asm
  case N => k_asm
  case j0 => exact InitJ.start
  case hJ => exact InitJ.mono
  case hl => exact fun i m n h => h.1.2 _ (by k_mem)
  case turn => exact fun i v m₁ n₁ h tk it e => nomatch e
  case done =>
    rintro m₁ n₁ h₂ tk₂ ⟨⟨⟨u₁, u₂, rfl⟩, hsub⟩, hgood⟩ F' N'
    have N' := news_mono N' hsub
    clear hsub
    k_steps
    rename _ < _ ∧ _ < _ ∧ AllLt _ _ => lA
    exact ok _ _ _ _ _ _ (by assumption) (by assumption) (by assumption) (by assumption) lA.1
end
theorem offgANY : True := trivial
end
end
section
theorem kw36 : True := by
  w_top off
  trivial
/-- what is no list -/
def BadThing (w : World) (news : List (Addr × Obj)) (v : Value) : Prop := (∃ z t, v = .int z t) ∨ (∃ y t, v = .str y t) ∨ (∃ a x, v = .ref a ∧ (a, ({ cls := .type "tuple", data := .seq x } : Obj)) ∈ news) ∨ (∃ a es c, v = .ref a ∧ (a, PySem.W.dictOf es c) ∈ news) ∨ (∃ a l, v = .ref a ∧ Tab w news a l)
theorem BadThing.not_none {w : World} {news : List (Addr × Obj)} {v : Value} (h : BadThing w news v) : plainIs v .none = true ∧ v ≠ .none := by
  rcases h with ⟨_, _, rfl⟩ | ⟨_, _, rfl⟩ | ⟨_, _, rfl, -⟩ | ⟨_, _, _, rfl, -⟩ | ⟨_, _, rfl, -⟩ <;> exact ⟨rfl, nofun⟩
theorem BadThing.mono {w : World} {news news' : List (Addr × Obj)} {v : Value} (h : BadThing w news v) (sub : ∀ q ∈ news, q ∈ news') : BadThing w news' v := by
  rcases h with h | h | ⟨a, x, e, h⟩ | ⟨a, x, c, e, h⟩ | ⟨a, l, e, h⟩
  · exact .inl h
  · exact .inr (.inl h)
  · exact .inr (.inr (.inl ⟨a, x, e, sub _ h⟩))
  · exact .inr (.inr (.inr (.inl ⟨a, x, c, e, sub _ h⟩)))
  · exact .inr (.inr (.inr (.inr ⟨a, l, e, h.mono sub⟩)))
theorem leaveT_plain {es : List Env} {h₀ g g' : Heap} {L L' : Addr} {m m' : Str → Option Value} {news' : List (Addr × Obj)} {v : Value} {s' : Shared} {R : Result → Shared → Prop} (T : KtsTurn (es.filterMap (·.frame)) g g') (F : Fr g' L' s'.heap m') (N : News g' L' s'.heap news') (k : Fr h₀ L s'.heap m → News h₀ L s'.heap news' → R (.ok (.ret v)) s') : LeaveT es h₀ L m g R v s' := leaveT_ T F N k
def listM : Str := Str.ofString "Headers must be a list of name/value tuples"
theorem kw34 : True := by
  k_with "leaving ref" => (fail_if_success have := @offH22); (k_here; (refine' leave_onS ?k1w99 ?k2w99 ?k3w99 ?k4w99 ?_; (case k3w99 => assumption); (case k2w99 => assumption); (case k1w99 => assumption); (case k4w99 => assumption); k_whole; intro _ S' R' U'; (try dsimp only at S' R' U' ⊢); (revert S' R' U'; intro _ _ _)))
  k_with "leaving ref" => (fail_if_success have := @offH22); (k_here; (refine' leave_raiseS ?k1w100 ?k0w100 ?k2w100 ?k3w100 ?_; (case k0w100 => first | assumption | exact Heap.MadeExc.of (by assumption)); (case k2w100 => assumption); (case k1w100 => assumption); (case k3w100 => k_asm); k_whole; intro _ _ S' R' U'; (try dsimp only at S' R' U' ⊢); (revert S' R' U'; intro _ _ _)))
  k_with "exec Raise some none" => (fail_if_success have := @offH22); ((with_reducible show wpAny _ _ (exec (Stmt.Raise (some (Expr.Call (Expr.Name (Str.ofString "TypeError") _) _ [] _)) none _) _) _ _ _); (refine' Raise_madeB PySem.F.excCall_TypeError PySem.F.excRaise_TypeError ?hhw101 ?_; (case hhw101 => first | with_reducible assumption | exact handled_deeper (by with_reducible assumption) | assumption)); (refine' nameX_B ?Fw101 ?Xw101 ?Tw101 ?ew101 PyProof.Rows.Boot.«TypeError» ?nw101 ⟨rfl, ?_⟩; (case Fw101 => k_asm); (case Xw101 => k_asm); (case Tw101 => k_asm); (case ew101 => k_is); (case nw101 => decide); k_whole))
  trivial
section
variable {w : World} {A A₀ : Around} {E : Value → Shared → Prop} {s : Shared} {h₀ base : Heap} {env : Env} {outer : List Env} {L x l d : Addr} {tl : Tok} {m mg mb : Str → Option Value} {news : List (Addr × Obj)}
   {p : Program} {loose : List Str} {mean : ExcName → Option Value} {Q : Value → Shared → Prop} {nm : Str} {tk : Tok} {its : Array Value} {n : Nat} {ps : List (Str × Value)}
theorem type_bad {news' : List (Addr × Obj)} {Lx : Addr} {mx : Str → Option Value} {v : Value} (hv : BadThing w news v) (F : Fr h₀ Lx s.heap mx) (N : News h₀ Lx s.heap news') (sub : ∀ q ∈ news, q ∈ news')
   (h : ∀ c, plainIs c (.type "list") = true → c ≠ .type "list" → Q c s) : wpAny (model pg w) A (call (.type "type") [v]) Q E s := by
  rcases hv.mono sub with ⟨z, t, rfl⟩ | ⟨y, t, rfl⟩ | ⟨a, x, rfl, ho⟩ | ⟨a, es, c, rfl, ho⟩ | ⟨a, l, rfl, hT⟩
  · walk_at "call type:type"
    exact h _ rfl (fun e => absurd (Value.type.inj e) (by decide))
  · walk_at "call type:type"
    exact h _ rfl (fun e => absurd (Value.type.inj e) (by decide))
  · exact kto_cont (T := "tuple") ⟨_, (N _ ho).1, rfl⟩ (by decide +kernel) (h _ rfl (fun e => absurd (Value.type.inj e) (by decide)))
  · exact kto_cont (T := "dict") ⟨_, (N _ ho).1, rfl⟩ (by decide +kernel) (h _ rfl (fun e => absurd (Value.type.inj e) (by decide)))
  · obtain ⟨d, tl, hx, hdd⟩ := hT.at_
    obtain ⟨hh, g, dd, t, os⟩ := s
    exact call_type_obj (N _ hx).1 (by rfl) (h _ rfl nofun)
theorem kw35 : True := by
  k_with "compareOp IsNot" => (fail_if_success have := @offH22); (refine' wpAny_isNot_other ?aw102 ?bw102 ?_; (case aw102 => exact (BadThing.not_none (by with_reducible assumption)).1); (case bw102 => exact (BadThing.not_none (by with_reducible assumption)).2))
  k_with "compareOp IsNot" => (fail_if_success have := @offH22); (refine' wpAny_isNot_other ?aw103 ?bw103 ?_; (case aw103 => with_reducible assumption); (case bw103 => with_reducible assumption))
  k_with "call type:type" => (fail_if_success have := @offH22); (refine' type_bad ?hw104 ?Fw104 ?Nw104 ?subw104 ?_; (case hw104 => with_reducible assumption); (case Fw104 => k_asm); (case Nw104 => k_asm); (case subw104 => first | exact fun _ h => h | exact fun _ h => .tail _ h | exact fun _ h => .tail _ (.tail _ h) | exact fun _ h => .tail _ (.tail _ (.tail _ h))); intro _ _ _)
  trivial
theorem init_bad {v : Value} (S : Sit w A A₀ base h₀ env outer L m p loose mean mg mb news s.heap 15) (hv : BadThing w news v)
   (h : ∀ e t g h' t' news' tk', Fr h₀ L g m → RaisedS base g (env :: outer) e (.type "TypeError") t [.str listM tk'] news' h' → g.UpToSlots h' → (∀ q ∈ news, q ∈ news') → E (.ref e) {s with heap := h', toks := t'}) :
   wpAny (model pg w) A (call (.ref 184) [v]) Q E s := by
  obtain ⟨KX, T, B, F, N, hA, hf, hke, hroom, hh⟩ := S
  k_steps
  rename RaisedS _ _ _ _ _ _ _ _ _ => R
  exact h _ _ _ _ _ _ _ (by assumption) R (by assumption) (fun q hq => by first | exact .tail _ (.tail _ hq) | exact .tail _ (.tail _ (.tail _ hq)))
end
theorem offH22 : True := trivial
end
section
theorem kw39 : True := by
  w_top off
  trivial
local macro_rules | `(tactic| walk_at "enter_try") => `(tactic| (walk_at "code_try"; k_whole; intro g' L' h' tk' FG' F' N' B' X' T' D' T0'; (try dsimp only); (try k_lift B'); (try k_fold)))
theorem kw37 : True := by
  k_with "code_try" => (fail_if_success have := @offH23); (refine' code_try ?k1w105 ?k2w105 ?k3w105 ?k4w105 ?k5w105 ?kAw105 ?kFw105 ?kKw105 ?k6w105 ?k7w105 ?k8w105 ?k9w105 ?kBw105 ?_ ?c2w105 ?c3w105 ?c4w105 ?c5w105; (case k1w105 => k_asm); (case k2w105 => k_asm); (case k3w105 => k_asm); (case k4w105 => k_asm); (case k5w105 => k_asm); (case kAw105 => assumption); (case kFw105 => assumption); (case kKw105 => assumption); (case k6w105 => k_is); (case k7w105 => k_is); (case k8w105 => k_room); (case k9w105 => first | exact BindsTo.of_eq rfl | exact binds_K (by k_in) rfl (by k_is) rfl rfl rfl | fail "k_enter: no rule for these arguments"); (case kBw105 => exact locs rfl); (case c5w105 => decide); (case c2w105 => exact rfl); (case c3w105 => exact rfl); (case c4w105 => exact rfl))
  k_with "call type:str" => (fail_if_success have := @offH23); ((with_reducible show wpAny _ _ (call (Value.type "str") [Value.ref _]) _ _ _); (first | refine' str_got_one PySem.F.excStr_AssertionError ?Nw106 ?Gw106 ?Uw106 ?_ | refine' str_got_one PySem.F.excStr_ValueError ?Nw106 ?Gw106 ?Uw106 ?_ | refine' str_got_one PySem.F.excStr_TypeError ?Nw106 ?Gw106 ?Uw106 ?_); (case Gw106 => with_reducible assumption); (case Nw106 => with_reducible assumption); (case Uw106 => exact units_deed (by with_reducible assumption)))
  k_with "exec If" => (fail_if_success have := @offH23); refine wpAny_If ?_
  trivial
section
variable {w : World} {A A₀ : Around} {E : Value → Shared → Prop} {s : Shared} {h₀ base : Heap} {env : Env} {outer : List Env} {L x l d : Addr} {tl : Tok} {m mg mb : Str → Option Value} {news : List (Addr × Obj)}
   {p : Program} {loose : List Str} {mean : ExcName → Option Value} {Q : Value → Shared → Prop} {v : Value}
theorem kw38 : True := by
  k_with "call ref" => (fail_if_success have := @offH23); ((with_reducible show wpAny _ _ (call (Value.ref 184) [_] _) _ _ _); k_dflt (refine' init_bad ?Sw108 ?hvw108 ?_; (case Sw108 => walk_at "mk_sit"); (case hvw108 => with_reducible assumption); k_whole); intro _ _ _ _ _ _ _ _ _ _ _)
  trivial
theorem refused_spec (S : Sit w A A₀ h₀ h₀ env [] L m p loose mean mg mb news s.heap 60) (hu : A.units + 64 < cLine) (hv : BadThing w news v)
   (h : ∀ h' t' news' tw, Fr h₀ L h' m → News h₀ L h' news' → (∀ q ∈ news, q ∈ news') → Q (.str listM tw) {s with heap := h', toks := t'}) :
   wpAny (model pg w) A (call (.ref 207) [v]) Q E s := by
  obtain ⟨KX, T, B', F, N, hA, hf, hke, hroom, hh⟩ := S
  refine wpAny_call ?_
  walk_at "enter_try"
  k_steps
  refine leaveT_plain (by assumption) (by assumption) (by assumption) fun F1 N1 => ?_
  exact h _ _ _ _ F1 N1 (by assumption)
end
theorem offH23 : True := trivial
end
section
theorem kw40 : True := by
  w_top off
  trivial
theorem alike_strs {n : List (Addr × Obj)} {d : Nat} {vs ws : List Value} {ns : List Str} (h1 : StrsAre vs ns) : StrsAre ws ns → Paired (Alike n d) vs ws := by
  induction h1 generalizing ws with
  | nil => intro h; cases h; exact .nil
  | cons z t _ ih => intro h; cases h with | cons _ u h => exact .cons Alike.str (ih h)
theorem six_strs {x : Str} {t : Tok} : StrsAre (List.replicate (Int.toNat 6) [Value.str x t]).flatten (List.replicate 6 x) := .cons _ _ (.cons _ _ (.cons _ _ (.cons _ _ (.cons _ _ (.cons _ _ .nil)))))
theorem dict_is {prog : Program} {w : World} {o : Obj} {kvs : List (Str × Value)} (h : Obj.IsDictOf (PySem.strKind prog w) o kvs) : ∃ es c, o = PySem.W.dictOf es c := by
  obtain ⟨es, ep, ⟨h1, h2, h3⟩, h4, -⟩ := h
  refine ⟨es.toList, ep, ?_⟩
  cases o
  cases h1; cases h2; cases h3; cases h4
  rfl
section
variable {w : World} {A A₀ : Around} {E : Value → Shared → Prop} {s : Shared} {h₀ : Heap} {L C : Addr} {m m₃ mg mb : Str → Option Value} {news : List (Addr × Obj)} {env env' : Env} {scope : Scope} {cl : List (Str × Addr)} {p1 p2 p3 : Pos}
   {p : Program} {loose : List Str} {mean : ExcName → Option Value} {Q : Value → Shared → Prop} {v : Value}
theorem refused_elt (S : Sit w A A₀ h₀ h₀ env' [] L m p loose mean mg mb news s.heap 60) (hu : A.units + 64 < cLine) (hv : BadThing w news v) (hg : env.globals = mainGlobals) (hk : (compEnvC scope cl C env).scope.kind = .function) (hj : (compEnvC scope cl C env).kindOf (Str.ofString "thing") = some .local) (h1 : (compEnvC scope cl C env).kindOf (Str.ofString "_law_refused") = some .globalImplicit) (hn : s.heap.Ns C m₃) (hm : m₃ (Str.ofString "thing") = some v)
   (hQ : ∀ h' t' news' tw, Fr h₀ L h' m → News h₀ L h' news' → (∀ q ∈ news, q ∈ news') → Q (.str listM tw) {s with heap := h', toks := t'}) :
   wpAny (model pg w) A (eval (.Call (.Name (Str.ofString "_law_refused") p1) [.Name (Str.ofString "thing") p2] [] p3) (compEnvC scope cl C env)) Q E s := by
  refine Call_ ?_
  refine LCgL.ld_global S.F S.KX S.T (by k_is) ?_ hg hk h1
  refine callWith_K S.KX (by k_is) ?_
  refine spliced_more ?_
  refine wpAny_Name (wpAny_loadName_local hk hj hn hm ?_)
  refine spliced_none ?_
  refine ⟨S.KX.keeps S.F.keep, ?_⟩
  exact refused_spec S hu hv hQ
end
end
end
section
theorem kw41 : True := by
  w_top off
  k_with_none
  k_with "k_room" => first | ((try simp only [depth_under_make, depth_under_kw, depth_in1, depth_deeper, depth_caller]); omega) | decide
  k_with "code_def" => (refine' code_def ?k1w2 ?k2w2 ?k3w2 ?k4w2 ?k5w2 ?kAw2 ?kFw2 ?kKw2 ?k6w2 ?k7w2 ?k8w2 ?k9w2 ?kBw2 ?_ ?c2w2 ?c3w2 ?c4w2 ?c5w2; (case k1w2 => k_asm); (case k2w2 => k_asm); (case k3w2 => k_asm); (case k4w2 => k_asm); (case k5w2 => k_asm); (case kAw2 => assumption); (case kFw2 => assumption); (case kKw2 => assumption);  (case k6w2 => k_is); (case k7w2 => k_is); (case k8w2 => k_room); (case k9w2 => first | exact BindsTo.of_eq rfl | exact binds_K (by k_in) rfl (by k_is) rfl rfl rfl | fail "k_enter: no rule for these arguments"); (case c5w2 => decide); (case kBw2 => exact locs rfl); (case c2w2 => exact rfl); (case c3w2 => exact rfl); (case c4w2 => exact rfl))
  k_with "code_defC" => (refine' code_defC ?k1w3 ?k2w3 ?k3w3 ?k4w3 ?k5w3 ?kAw3 ?kFw3 ?kKw3 ?k6w3 ?k7w3 ?k8w3 ?k9w3 ?kBw3 ?kDw3 ?_ ?c2w3 ?c3w3 ?c4w3; (case k1w3 => k_asm); (case k2w3 => k_asm); (case k3w3 => k_asm); (case k4w3 => k_asm); (case k5w3 => k_asm); (case kAw3 => assumption); (case kFw3 => assumption); (case kKw3 => assumption); (case k6w3 => k_is); (case k7w3 => k_is); (case k8w3 => k_room); (case k9w3 => first | exact BindsTo.of_eq rfl | exact binds_K (by k_in) rfl (by k_is) rfl rfl rfl | fail "k_enter: no rule for these arguments"); (case kBw3 => exact rfl); (case kDw3 => decide +kernel); (case c2w3 => exact rfl); (case c3w3 => exact rfl); (case c4w3 => exact rfl))
  k_with "k_mem" => first | assumption | exact List.Mem.head _ | (refine' List.Mem.tail _ ?_; k_mem)
  k_with "k_all" => exact all_ne_of_lt (by assumption) (by first | exact Nat.le_refl _ | exact Nat.le_succ _ | omega)
  k_with "call builtin:str.lower" => (refine PyProof.Rows.SCL.lower (by omega) ?_; intro _)
  k_with "eval ListComp" => refine hold_intro ?_
  k_with "eval Slice none none none" => (refine slice_K (by assumption) (by assumption) ?_; intro _ _ _ _; (try k_sweep))
  k_with "setItem ref ref ref" => refine hold_intro ?_
  k_with "exec Assign cons ListComp" => ((with_reducible show wpAny _ _ (exec (Stmt.Assign [Expr.Subscript _ _ _] _ _) _) _ _ _); refine wpAny_Assign_Subscript ?_)
  k_with "call builtin:len" => (refine' len_L ?Nw11 ?hlw11 ?hsw11 ?_; (case Nw11 => k_asm); (case hlw11 => k_mem); (case hsw11 => omega); intro _ _)
  k_with "subscriptTail Name Slice ref ref" => ((with_reducible show wpAny _ _ (subscriptTail _ _ (Value.ref _) (Value.ref _)) _ _ _); refine' copy_L ?Fw12 ?Nw12 ?hlw12 ?hsw12 ?hzw12 ?_ ?hew12; (case Fw12 => k_asm); (case Nw12 => k_asm); (case hlw12 => k_mem); (case hsw12 => exact List.Mem.head _); (case hzw12 => rw [sizeLine_eq]; omega); (case hew12 => with_unfolding_all rfl); intro _ _ _ _ _; (try k_sweep))
  k_with "kp_more" => (refine' kp_more ?k1w13 ?k2w13 ?k3w13 ?k4w13 ?k5w13 ?kAw13 ?kFw13 ?kKw13 ?k6w13 ?k7w13 ?k8w13 ?kXw13 ?kMw13 ?kNw13 ?kDw13 ?kRw13 ?kPw13 ?kTw13 ?kBw13 ?_ ?c2w13 ?c3w13 ?c4w13 ?c5w13; (case kAw13 => assumption); (case kFw13 => assumption); (case kKw13 => assumption); (case k1w13 => k_asm); (case k2w13 => k_asm); (case k3w13 => k_asm); (case k4w13 => k_asm); (case k5w13 => k_asm); (case k6w13 => k_is); (case k7w13 => k_is); (case k8w13 => k_room); (case kXw13 => kp_lit); (case kMw13 => exact rfl); (case kNw13 => exact rfl); (case kDw13 => kp_flats); (case kRw13 => exact rfl); (case kPw13 => exact rfl); (case kTw13 => exact fun _ => rfl); (case kBw13 => exact fun _ => locs rfl); (case c5w13 => decide); (case c2w13 => exact rfl); (case c3w13 => exact rfl); (case c4w13 => exact rfl))
  k_with "exec For Tuple Name" => refine hold_intro ?_
  k_with "exec For Tuple Call" => refine hold_intro ?_
  k_with "exec For Tuple Call cons nil" => refine hold_intro ?_
  k_with "exec For Tuple Name cons nil" => refine hold_intro ?_
  k_with "call builtin:list.append" => (refine' append_L ?Fw18 ?Nw18 ?hlw18 ?_ ?hzw18; (case Fw18 => k_asm); (case Nw18 => k_asm); (case hlw18 => k_mem); (case hzw18 => (rw [sizeLine_eq]; omega)); intro _ _ _)
  k_with "execs cons" => ((with_reducible show wpAny _ _ (execs [_] _) _ _ _); refine execs_one ?_)
  k_with "k_room" => first | exact room0 (by with_reducible assumption) (by decide) | exact room1 (by with_reducible assumption) rfl (by decide) | exact room2 (by with_reducible assumption) rfl (by decide)
  k_with "storeName" => ((with_reducible show wpAny _ _ (storeName _ _ _) _ _ _); dsimp only)
  k_with "newList" => ((with_reducible show wpAny _ _ (newList _) _ _ _); dsimp only)
  k_with "newTuple" => ((with_reducible show wpAny _ _ (newTuple _) _ _ _); dsimp only)
  k_with "getMethod ref" => ((with_reducible show wpAny _ _ (getMethod (Value.ref _) (PySem.Str.ofString "append") _) _ _ _); (refine' listMethod_K ?Nw24 ?mw24 PySem.F.slot_list_append PySem.F.type_list_append ?_; (case Nw24 => k_asm); (case mw24 => k_mem)))
  k_with "callWith ref" => ((with_reducible show wpAny _ _ (callWith _ _ _ _ (backToKw _ _)) _ _ _); k_dflt (refine' callWith_KW ?k1w25 ?k2w25 ?k3w25 ?_; (case k1w25 => k_asm); (case k2w25 => k_is); (case k3w25 => exact rfl); k_whole))
  k_with "mk_sit" => (refine' Sit.mk ?KXw26 ?Tw26 ?Bw26 ?Fw26 ?Nw26 ?hAw26 ?hfw26 ?hkew26 ?hroomw26 ?hhw26; (case KXw26 => k_asm); (case Tw26 => k_asm); (case Bw26 => k_asm); (case Fw26 => k_asm); (case Nw26 => k_asm); (case hAw26 => first | with_reducible assumption | exact Around.frames_deeper (Below.stack (by with_reducible assumption)) | rfl); (case hfw26 => first | with_reducible assumption | rfl); (case hkew26 => first | with_reducible assumption | rfl); (case hroomw26 => k_room); (case hhw26 => first | with_reducible assumption | exact handled_deeper (by with_reducible assumption) | assumption | rfl))
  k_with "call ref" => ((with_reducible show wpAny _ _ (call (Value.ref 83) [_, Value.str _ _] (List.zip _ [Value.bool true])) _ _ _); k_dflt (refine' conv_name ?Sw27 ?kaw27 ?kbw27 ?_; (case Sw27 => walk_at "mk_sit"); (case kaw27 => k_asm); (case kbw27 => k_asm); k_whole); intro _ _ _ _)
  k_with "call ref" => ((with_reducible show wpAny _ _ (call (Value.ref 83) [_, Value.str _ _] (List.zip _ [Value.bool false])) _ _ _); k_dflt (refine' conv_val ?Sw28 ?kaw28 ?kbw28 ?_; (case Sw28 => walk_at "mk_sit"); (case kaw28 => k_asm); (case kbw28 => k_asm); k_whole); intro _ _ _ _)
  trivial
def deedStmt : Stmt := pg.main.body.getD (pg.main.body.length - 4) (.Pass default)
def deedBody : List Stmt := match deedStmt with
  | .FunctionDef _ _ b _ _ _ _ _ _ _ => b
  | _ => []
def deedScope : Scope := match deedStmt with
  | .FunctionDef _ _ _ _ _ _ sc _ _ _ => sc
  | _ => default
abbrev deedEnv (L : Addr) : Env := envOf (Str.ofString "_law_deed") deedScope L 195 (.ref 194)
/-- a name that is a text -/
def NS (nm : Str) : Prop := nm.length ≤ 1000 ∧ ctlIn isCtlN (Txt.lower nm).cps = ctlIn isCtlN nm.cps
/-- the eight texts -/
def textsV (sg : Str) (t0 t1 t2 t3 t4 t5 t7 : Tok) : Array Value := #[.str (Str.ofString "x") t0, .str (Str.ofString "") t1, .str (Str.ofString "x\ty") t2, .str (Str.ofString "A") t3, .str (Str.ofString "x" ++ sg) t4, .int 7 t5, .none, .str (sg ++ Str.ofString "x") t7]
def TextsAt (n : List (Addr × Obj)) (sg : Str) (D : Addr) : Prop := ∃ t0 t1 t2 t3 t4 t5 t7 k, (D, listOf (textsV sg t0 t1 t2 t3 t4 t5 t7) k) ∈ n
section
variable {prog : Program} {w : World} {A : Around} {E : Value → Shared → Prop} {s : Shared} {h₀ : Heap} {L : Addr} {m : Str → Option Value} {news : List (Addr × Obj)}
theorem text_pick2 {D : Addr} {sg : Str} {z : Int} {u : Tok} {value slice : Expr} {Q : Value → Shared → Prop} (N : News h₀ L s.heap news) (hl : TextsAt news sg D)
    (hz : 0 ≤ z ∧ z < 8) (hsg : SignOk sg) (h : ∀ v, TextAt sg z v → VOk v → Q v s)
    (hs : subscripted slice false (.ref D) (.int z u) = operate [.ref D, .int z u] (getItem (.ref D) (.int z u)) := by with_unfolding_all rfl) (hg : ∀ r, letTemporaryGo value (.ref D) r = pure () := by intro _; with_unfolding_all rfl) :
    wpAny (model prog w) A (subscriptTail value slice (.ref D) (.int z u)) Q E s := by
  obtain ⟨t0, t1, t2, t3, t4, t5, t7, c, hm⟩ := hl
  exact text_pick N hm hz hsg h hs hg
end
def faultV : Value → Str
  | .str s _ => if ctlIn isCtlV s.cps then Str.ofString "ValueError " ++ ctlM else Str.ofString ""
  | v => Str.ofString "AssertionError " ++ errM v
theorem fV_good {v : Value} (h : goodV isCtlV v) : faultV v = Str.ofString "" := by
  obtain ⟨s, t, rfl, h⟩ := h
  show (if ctlIn isCtlV s.cps then _ else _) = _
  rw [h]; rfl
theorem fV_bad {v : Value} (h : badV isCtlV v) : faultV v = Str.ofString "ValueError " ++ ctlM := by
  obtain ⟨s, t, rfl, h⟩ := h
  show (if ctlIn isCtlV s.cps then _ else _) = _
  rw [h]; rfl
theorem fV_badA {v : Value} (h : badA v) : faultV v = Str.ofString "AssertionError " ++ errM v := by
  rcases h with ⟨t, rfl⟩ | rfl <;> rfl
/-- the pairs without a name -/
def cutN (nm : Str) (ps : List (Str × Value)) : List (Str × Value) := ps.filter (fun q => !(Txt.lower q.1 == Txt.lower nm))
/-- a store -/
def OutSet (nm : Str) (t : Tok) (v : Value) (ps ps' : List (Str × Value)) (ans : Str) : Prop :=
  (ctlIn isCtlN nm.cps = true ∧ ps' = ps ∧ ans = Str.ofString "ValueError " ++ ctlM) ∨ (ctlIn isCtlN nm.cps = false ∧ ((goodV isCtlV v ∧ ps' = cutN nm ps ++ [(nm, v)] ∧ ans = Str.ofString "") ∨ (badV isCtlV v ∧ ps' = cutN nm ps ∧ ans = Str.ofString "ValueError " ++ ctlM) ∨ (badA v ∧ ps' = cutN nm ps ∧ ans = Str.ofString "AssertionError " ++ errM v)))
theorem errM_len {v : Value} : (errM v).length ≤ 100 := by
  have h : (shown v).length ≤ 10 := by
    have h1 : (Str.ofString "7").length ≤ 10 := by decide +kernel
    have h2 : (Str.ofString "None").length ≤ 10 := by decide +kernel
    cases v <;> first | exact h1 | exact h2
  unfold errM
  rw [PySem.Str.length_append, PySem.Str.length_append, show (Str.ofString "Header names/values must be of type str (got ").length = 45 from by decide +kernel, show (Str.ofString ")").length = 1 from by decide +kernel]
  omega
theorem wordA_len : (Str.ofString "AssertionError ").length ≤ 100 := by decide +kernel
end
section
theorem kw42 : True := by
  w_top off
  trivial
def vE : Str := Str.ofString "ValueError " ++ ctlM
def aE (v : Value) : Str := Str.ofString "AssertionError " ++ errM v
/-- a value stored behind what stands, or refused -/
def OutV (v : Value) (ps pok ps' : List (Str × Value)) (ans : Str) : Prop := (goodV isCtlV v ∧ ps' = pok ∧ ans = Str.ofString "") ∨ (badV isCtlV v ∧ ps' = ps ∧ ans = vE) ∨ (badA v ∧ ps' = ps ∧ ans = aE v)
/-- a delete -/
def OutDel (nm : Str) (ps ps' : List (Str × Value)) (ans : Str) : Prop := (ctlIn isCtlN nm.cps = true ∧ ps' = ps ∧ ans = vE) ∨ (ctlIn isCtlN nm.cps = false ∧ ps' = cutN nm ps ∧ ans = Str.ofString "")
/-- setdefault -/
def OutDef (nm : Str) (v : Value) (ps ps' : List (Str × Value)) (ans : Str) : Prop := (ctlIn isCtlN nm.cps = true ∧ ps' = ps ∧ ans = vE) ∨ (ctlIn isCtlN nm.cps = false ∧ ((getv ps (Txt.lower nm) ≠ .none ∧ ps' = ps ∧ ans = Str.ofString "") ∨ (getv ps (Txt.lower nm) = .none ∧ OutV v ps (ps ++ [(nm, v)]) ps' ans)))
/-- add_header's last step -/
def OutN (nv : Value) (ps ps' : List (Str × Value)) (ans : Str) : Prop := (badV isCtlN nv ∧ ps' = ps ∧ ans = vE) ∨ (badA nv ∧ ps' = ps ∧ ans = aE nv) ∨ (∃ nm tn u tu, nv = .str nm tn ∧ ctlIn isCtlN nm.cps = false ∧ fineU u ∧ ps' = ps ++ [(nm, .str u tu)] ∧ ans = Str.ofString "")
def OutP (pv nv : Value) (ps ps' : List (Str × Value)) (ans : Str) : Prop := (badV isCtlV pv ∧ ps' = ps ∧ ans = vE) ∨ (badA pv ∧ pv ≠ .none ∧ ps' = ps ∧ ans = aE pv) ∨ ((goodV isCtlV pv ∨ pv = .none) ∧ OutN nv ps ps' ans)
/-- add_header -/
def OutAdd (v pv nv : Value) (ps ps' : List (Str × Value)) (ans : Str) : Prop := (badV isCtlV v ∧ ps' = ps ∧ ans = vE) ∨ (badA v ∧ v ≠ .none ∧ ps' = ps ∧ ans = aE v) ∨ ((goodV isCtlV v ∨ v = .none) ∧ OutP pv nv ps ps' ans)
theorem TextAt.pok {sg : Str} {z : Int} {v : Value} (hs : SignOk sg) (h : TextAt sg z v) : POk v := by
  have h1 := sign_len hs
  have key : ∀ y : Str, y ∈ ([Str.ofString "x" ++ sg, sg ++ Str.ofString "x"] : List Str) → ctlIn isCtlV y.cps = false → y ∈ sixL := by
    obtain ⟨c, hc, rfl⟩ := hs
    have : ∀ c < 128, (c < 32 ∨ c = 127) → ([Str.ofString "x" ++ ⟨#[c]⟩, ⟨#[c]⟩ ++ Str.ofString "x"] : List Str).all (fun y => ctlIn isCtlV y.cps || decide (y ∈ sixL)) = true := by decide +kernel
    intro y hy hf
    have h := List.all_eq_true.mp (this c (by omega) hc) y hy
    rw [hf, Bool.false_or] at h
    exact of_decide_eq_true h
  rcases h with ⟨-, t, rfl⟩ | ⟨-, t, rfl⟩ | ⟨-, t, rfl⟩ | ⟨-, t, rfl⟩ | ⟨-, t, rfl⟩ | ⟨-, t, rfl⟩ | ⟨-, rfl⟩ | ⟨-, t, rfl⟩
  · exact .inl ⟨_, _, rfl, by decide +kernel, fun _ => by decide +kernel⟩
  · exact .inl ⟨_, _, rfl, by decide +kernel, fun _ => by decide +kernel⟩
  · exact .inl ⟨_, _, rfl, by decide +kernel, fun _ => by decide +kernel⟩
  · exact .inl ⟨_, _, rfl, by decide +kernel, fun _ => by decide +kernel⟩
  · exact .inl ⟨_, _, rfl, app_len1 (by decide +kernel) h1, key _ (.head _)⟩
  · exact .inr (.inl ⟨_, rfl⟩)
  · exact .inr (.inr rfl)
  · exact .inl ⟨_, _, rfl, app_len2 h1 (by decide +kernel), key _ (.tail _ (.head _))⟩
section
variable {prog : Program} {w : World} {A : Around} {E : Value → Shared → Prop} {s : Shared} {h₀ : Heap} {L : Addr} {m : Str → Option Value} {news : List (Addr × Obj)}
theorem text_pick3 {D : Addr} {sg : Str} {z : Int} {u : Tok} {value slice : Expr} {Q : Value → Shared → Prop} (N : News h₀ L s.heap news) (hl : TextsAt news sg D)
    (hz : 0 ≤ z ∧ z < 8) (hsg : SignOk sg) (h : ∀ v, TextAt sg z v → VOk v → POk v → Q v s)
    (hs : subscripted slice false (.ref D) (.int z u) = operate [.ref D, .int z u] (getItem (.ref D) (.int z u)) := by with_unfolding_all rfl) (hg : ∀ r, letTemporaryGo value (.ref D) r = pure () := by intro _; with_unfolding_all rfl) :
    wpAny (model prog w) A (subscriptTail value slice (.ref D) (.int z u)) Q E s :=
  text_pick2 N hl hz hsg (fun v a b => h v a b (a.pok hsg)) hs hg
end
end
section
theorem kw43 : True := by
  w_top off
  trivial
/-- a text for a name, at its place -/
def NmAt (sg : Str) (z : Int) (nm : Str) : Prop := (0 ≤ z ∧ z < 6 ∧ NameG z nm) ∨ (z = 6 ∧ nm = Str.ofString "b" ++ sg) ∨ (z = 7 ∧ nm = sg ++ Str.ofString "A")
/-- the name at a place: big says that the last is a number -/
def NvAt (sg : Str) (big : Bool) (z : Int) (nv : Value) : Prop := (∃ nm t, nv = .str nm t ∧ NmAt sg z nm ∧ (big = true → z < 7)) ∨ (big = true ∧ z = 7 ∧ ∃ t, nv = .int 7 t)
theorem NmAt.ns {sg : Str} {z : Int} {nm : Str} (hs : SignOk sg) (h : NmAt sg z nm) : NS nm := by
  rcases h with ⟨-, -, h⟩ | ⟨-, rfl⟩ | ⟨-, rfl⟩
  · exact ⟨h.facts.1, h.facts.2.2.trans h.facts.2.1.symm⟩
  · refine ⟨app_len1 (by decide +kernel) (sign_len hs), ?_⟩
    obtain ⟨c, hc, rfl⟩ := hs
    have : ∀ c < 128, (c < 32 ∨ c = 127) → ctlIn isCtlN (Txt.lower (Str.ofString "b" ++ ⟨#[c]⟩)).cps = ctlIn isCtlN (Str.ofString "b" ++ ⟨#[c]⟩).cps := by decide +kernel
    exact this c (by omega) hc
  · refine ⟨app_len2 (sign_len hs) (by decide +kernel), ?_⟩
    obtain ⟨c, hc, rfl⟩ := hs
    have : ∀ c < 128, (c < 32 ∨ c = 127) → ctlIn isCtlN (Txt.lower (⟨#[c]⟩ ++ Str.ofString "A")).cps = ctlIn isCtlN (⟨#[c]⟩ ++ Str.ofString "A").cps := by decide +kernel
    exact this c (by omega) hc
theorem NvAt.small {sg : Str} {z : Int} {nv : Value} (h : NvAt sg false z nv) : ∃ nm t, nv = .str nm t ∧ NmAt sg z nm := by
  rcases h with ⟨nm, t, e, h, -⟩ | ⟨e, -⟩
  · exact ⟨nm, t, e, h⟩
  · cases e
theorem NvAt.vok {sg : Str} {b : Bool} {z : Int} {nv : Value} (hs : SignOk sg) (h : NvAt sg b z nv) : VOk nv := by
  rcases h with ⟨nm, t, rfl, h, -⟩ | ⟨-, -, t, rfl⟩
  · exact .inl ⟨_, _, rfl, (h.ns hs).1⟩
  · exact .inr (.inl ⟨_, rfl⟩)
section
variable {prog : Program} {w : World} {A : Around} {E : Value → Shared → Prop} {s : Shared} {h₀ : Heap} {L : Addr} {m : Str → Option Value} {news : List (Addr × Obj)}
theorem name_pick2 {D : Addr} {sg : Str} {v7 : Value} {b : Bool} {t0 t1 t2 t3 t4 t5 t6 : Tok} {k : Nat} {z : Int} {u : Tok} {value slice : Expr} {Q : Value → Shared → Prop} (N : News h₀ L s.heap news) (hl : (D, listOf #[.str (Str.ofString "a") t0, .str (Str.ofString "A") t1, .str (Str.ofString "b") t2, .str (Str.ofString "B") t3, .str (Str.ofString "") t4, .str (Str.ofString "a-b") t5, .str (Str.ofString "b" ++ sg) t6, v7] k) ∈ news)
    (hz : 0 ≤ z ∧ z < 8) (h7 : NvAt sg b 7 v7) (h : ∀ nv, NvAt sg b z nv → Q nv s)
    (hs : subscripted slice false (.ref D) (.int z u) = operate [.ref D, .int z u] (getItem (.ref D) (.int z u)) := by with_unfolding_all rfl) (hg : ∀ r, letTemporaryGo value (.ref D) r = pure () := by intro _; with_unfolding_all rfl) :
    wpAny (model prog w) A (subscriptTail value slice (.ref D) (.int z u)) Q E s := by
  have hk : z = 0 ∨ z = 1 ∨ z = 2 ∨ z = 3 ∨ z = 4 ∨ z = 5 ∨ z = 6 ∨ z = 7 := zlt8 (by first | with_reducible assumption | omega)
  have key : ∃ v, ([Value.str (Str.ofString "a") t0, .str (Str.ofString "A") t1, .str (Str.ofString "b") t2, .str (Str.ofString "B") t3, .str (Str.ofString "") t4, .str (Str.ofString "a-b") t5, .str (Str.ofString "b" ++ sg) t6, v7] : List Value)[z.toNat]? = some v ∧ NvAt sg b z v := by
    rcases hk with rfl | rfl | rfl | rfl | rfl | rfl | rfl | rfl
    · exact ⟨_, rfl, .inl ⟨_, _, rfl, .inl ⟨by decide, by decide, rfl⟩, fun _ => by decide⟩⟩
    · exact ⟨_, rfl, .inl ⟨_, _, rfl, .inl ⟨by decide, by decide, rfl⟩, fun _ => by decide⟩⟩
    · exact ⟨_, rfl, .inl ⟨_, _, rfl, .inl ⟨by decide, by decide, rfl⟩, fun _ => by decide⟩⟩
    · exact ⟨_, rfl, .inl ⟨_, _, rfl, .inl ⟨by decide, by decide, rfl⟩, fun _ => by decide⟩⟩
    · exact ⟨_, rfl, .inl ⟨_, _, rfl, .inl ⟨by decide, by decide, rfl⟩, fun _ => by decide⟩⟩
    · exact ⟨_, rfl, .inl ⟨_, _, rfl, .inl ⟨by decide, by decide, rfl⟩, fun _ => by decide⟩⟩
    · exact ⟨_, rfl, .inl ⟨_, _, rfl, .inr (.inl ⟨rfl, rfl⟩), fun _ => by decide⟩⟩
    · exact ⟨_, rfl, h7⟩
  obtain ⟨v, e, hv⟩ := key
  exact item_at N hl e hz.1 (by omega) (h v hv) hs hg
end
theorem nv_last {sg : Str} {t : Tok} : NvAt sg false 7 (.str (sg ++ Str.ofString "A") t) := .inl ⟨_, _, rfl, .inr (.inr ⟨rfl, rfl⟩), fun h => nomatch h⟩
end
section
theorem kw44 : True := by
  w_top off
  trivial
inductive Ans where
  | txt (s : Str)
  | two (a b : Nat)
/-- a value's mark -/
def markN : Value → Nat
  | .none => 110
  | .str s _ => if ctlIn isCtlV s.cps then 111 else 120
  | _ => 111
/-- a name's row -/
def clsN (nm : Str) : Nat := if Txt.lower nm = Str.ofString "a" then 0 else if Txt.lower nm = Str.ofString "b" then 1 else if Txt.lower nm = Str.ofString "" then 2 else if Txt.lower nm = Str.ofString "a-b" then 3 else 4
def rowN (ps : List (Str × Value)) (c : Nat) : List Nat := (ps.filter (fun q => clsN q.1 == c)).map fun q => markN q.2
def rowsL (ps : List (Str × Value)) : List Str := [ofL (rowN ps 0), ofL (rowN ps 1), ofL (rowN ps 2), ofL (rowN ps 3), ofL (rowN ps 4)]
theorem rowsL_get (ps : List (Str × Value)) {c : Nat} (h : c < 5) : (rowsL ps).getD c default = ofL (rowN ps c) := by
  have : c = 0 ∨ c = 1 ∨ c = 2 ∨ c = 3 ∨ c = 4 := by first | exact nlt5 (by first | with_reducible assumption | omega) | exact zlt5 (by first | with_reducible assumption | omega)
  rcases this with rfl | rfl | rfl | rfl | rfl <;> rfl
theorem rowsL_set {ps ps' : List (Str × Value)} {c : Nat} {y : List Nat} (hc : c < 5) (h1 : rowN ps' c = y) (h2 : ∀ k < 5, k ≠ c → rowN ps' k = rowN ps k) : (rowsL ps).set c (ofL y) = rowsL ps' := by
  have : c = 0 ∨ c = 1 ∨ c = 2 ∨ c = 3 ∨ c = 4 := by first | exact nlt5 (by first | with_reducible assumption | omega) | exact zlt5 (by first | with_reducible assumption | omega)
  unfold rowsL
  rcases this with rfl | rfl | rfl | rfl | rfl
  · rw [h1, h2 1 (by decide) (by decide), h2 2 (by decide) (by decide), h2 3 (by decide) (by decide), h2 4 (by decide) (by decide)]; rfl
  · rw [h1, h2 0 (by decide) (by decide), h2 2 (by decide) (by decide), h2 3 (by decide) (by decide), h2 4 (by decide) (by decide)]; rfl
  · rw [h1, h2 0 (by decide) (by decide), h2 1 (by decide) (by decide), h2 3 (by decide) (by decide), h2 4 (by decide) (by decide)]; rfl
  · rw [h1, h2 0 (by decide) (by decide), h2 1 (by decide) (by decide), h2 2 (by decide) (by decide), h2 4 (by decide) (by decide)]; rfl
  · rw [h1, h2 0 (by decide) (by decide), h2 1 (by decide) (by decide), h2 2 (by decide) (by decide), h2 3 (by decide) (by decide)]; rfl
theorem clsN_le (nm : Str) : clsN nm < 5 := by
  unfold clsN
  split
  · decide
  · split
    · decide
    · split
      · decide
      · split <;> decide
theorem rowN_snoc (ps : List (Str × Value)) (q : Str × Value) (c : Nat) : rowN (ps ++ [q]) c = rowN ps c ++ if clsN q.1 = c then [markN q.2] else [] := by
  unfold rowN
  rw [List.filter_append, List.map_append]
  congr 1
  by_cases h : clsN q.1 = c
  · rw [if_pos h, List.filter_cons_of_pos (by simpa using h)]; rfl
  · rw [if_neg h, List.filter_cons_of_neg (by simpa using h)]; rfl
theorem rowN_rev (ps : List (Str × Value)) (c : Nat) : rowN ps.reverse c = (rowN ps c).reverse := by
  unfold rowN
  rw [List.filter_reverse, List.map_reverse]
theorem keys_apart {a b : Str} (ha : clsN a < 4) : (Txt.lower b = Txt.lower a) ↔ clsN b = clsN a := by
  constructor
  · intro h; unfold clsN; rw [h]
  · intro h
    unfold clsN at h ha
    by_cases a0 : Txt.lower a = Str.ofString "a"
    · simp only [a0, if_true] at h ⊢
      by_cases b0 : Txt.lower b = Str.ofString "a"
      · exact b0
      · rw [if_neg b0] at h; split at h <;> (try split at h) <;> (try split at h) <;> cases h
    · rw [if_neg a0] at h ha
      by_cases a1 : Txt.lower a = Str.ofString "b"
      · simp only [a1, if_true] at h ⊢
        split at h
        · cases h
        · split at h
          · assumption
          · split at h <;> (try split at h) <;> cases h
      · rw [if_neg a1] at h ha
        by_cases a2 : Txt.lower a = Str.ofString ""
        · simp only [a2, if_true] at h ⊢
          split at h
          · cases h
          · split at h
            · cases h
            · split at h
              · assumption
              · split at h <;> cases h
        · rw [if_neg a2] at h ha
          by_cases a3 : Txt.lower a = Str.ofString "a-b"
          · simp only [a3, if_true] at h ⊢
            split at h
            · cases h
            · split at h
              · cases h
              · split at h
                · cases h
                · split at h
                  · assumption
                  · cases h
          · rw [if_neg a3] at ha
            exact absurd ha (by decide)
theorem rowN_cut {nm : Str} (ps : List (Str × Value)) (h4 : clsN nm < 4) (c : Nat) : rowN (cutN nm ps) c = if c = clsN nm then [] else rowN ps c := by
  unfold rowN cutN
  rw [List.filter_filter]
  by_cases e : c = clsN nm
  · rw [if_pos e]
    have : (ps.filter fun q => clsN q.1 == c && !(Txt.lower q.1 == Txt.lower nm)) = [] := by
      rw [List.filter_eq_nil_iff]
      intro q _ h
      rw [Bool.and_eq_true, beq_iff_eq, Bool.not_eq_true', beq_eq_false_iff_ne] at h
      exact h.2 ((keys_apart h4).mpr (h.1.trans e))
    rw [this]; rfl
  · rw [if_neg e]
    congr 1
    apply List.filter_congr
    intro q _
    by_cases hq : clsN q.1 = c
    · have h2 : ¬ Txt.lower q.1 = Txt.lower nm := fun h => e (hq ▸ (keys_apart h4).mp h)
      rw [beq_eq_false_iff_ne.mpr h2, Bool.not_false, Bool.and_true]
    · rw [beq_eq_false_iff_ne.mpr hq, Bool.false_and]
theorem cons5 {α : Type} {f : α → Nat} (hf : ∀ x, f x < 5) : ∀ l : List α, (l.filter (fun x => f x == 0)).length + (l.filter (fun x => f x == 1)).length + (l.filter (fun x => f x == 2)).length + (l.filter (fun x => f x == 3)).length + (l.filter (fun x => f x == 4)).length = l.length
  | [] => rfl
  | a :: r => by
    have ih := cons5 hf r
    have h5 := hf a
    have : f a = 0 ∨ f a = 1 ∨ f a = 2 ∨ f a = 3 ∨ f a = 4 := by first | exact nlt5 (by first | with_reducible assumption | omega) | exact zlt5 (by first | with_reducible assumption | omega)
    simp only [List.filter_cons, List.length_cons]
    rcases this with e | e | e | e | e <;> simp [e] <;> omega
theorem rowN_le (ps : List (Str × Value)) (c : Nat) : (rowN ps c).length ≤ ps.length := by
  unfold rowN
  rw [List.length_map]
  exact List.length_filter_le _ _
theorem rowN_sum (ps : List (Str × Value)) : (rowN ps 0).length + (rowN ps 1).length + (rowN ps 2).length + (rowN ps 3).length + (rowN ps 4).length = ps.length := by
  unfold rowN
  simp only [List.length_map]
  exact cons5 (f := fun q : Str × Value => clsN q.1) (fun q => clsN_le q.1) ps
theorem cutN_cnt {nm : Str} (ps : List (Str × Value)) (h4 : clsN nm < 4) : (cutN nm ps).length + (rowN ps (clsN nm)).length = ps.length := by
  unfold rowN cutN
  rw [List.length_map]
  have e : ∀ q : Str × Value, (clsN q.1 == clsN nm) = (Txt.lower q.1 == Txt.lower nm) := fun q => by
    by_cases h : Txt.lower q.1 = Txt.lower nm
    · rw [beq_iff_eq.mpr ((keys_apart h4).mp h), beq_iff_eq.mpr h]
    · rw [beq_eq_false_iff_ne.mpr h, beq_eq_false_iff_ne.mpr fun h2 => h ((keys_apart h4).mpr h2)]
  simp only [e]
  induction ps with
  | nil => rfl
  | cons a r ih =>
    simp only [List.filter_cons, List.length_cons]
    cases (Txt.lower a.1 == Txt.lower nm) <;> simp <;> omega
/-- what stands in a pair of ours -/
def PairOk (q : Str × Value) : Prop := VBig q.2 ∧ ((clsN q.1 < 4 ∧ ctlIn isCtlN q.1.cps = false) ∨ (clsN q.1 = 4 ∧ ctlIn isCtlN q.1.cps = true))
theorem good_iff {q : Str × Value} (h : PairOk q) : goodPr q ↔ clsN q.1 ≠ 4 ∧ markN q.2 = 120 := by
  obtain ⟨n, v⟩ := q
  obtain ⟨hv, hn⟩ := h
  have e : goodV isCtlV v ↔ markN v = 120 := by
    rcases hv with ⟨s, t, e, -⟩ | ⟨t, e⟩ | e
    · have e : v = .str s t := e
      subst e
      show _ ↔ (if ctlIn isCtlV s.cps then 111 else 120) = 120
      constructor
      · rintro ⟨s', t', e, h⟩
        cases e
        rw [h]; rfl
      · intro h
        refine ⟨s, t, rfl, ?_⟩
        cases hc : ctlIn isCtlV s.cps with
        | false => rfl
        | true => rw [hc] at h; cases h
    · have e : v = .int 7 t := e
      subst e
      exact ⟨fun ⟨_, _, e, _⟩ => (by cases e), fun h => absurd h (by show ¬ (111 = 120); decide)⟩
    · have e : v = .none := e
      subst e
      exact ⟨fun ⟨_, _, e, _⟩ => (by cases e), fun h => absurd h (by show ¬ (110 = 120); decide)⟩
  unfold goodPr
  rw [e]
  rcases hn with ⟨h4, hc⟩ | ⟨h4, hc⟩
  · exact ⟨fun h => ⟨Nat.ne_of_lt h4, h.2⟩, fun h => ⟨hc, h.2⟩⟩
  · exact ⟨fun h => (by have h1 := h.1; rw [hc] at h1; cases h1), fun h => absurd h4 h.1⟩
theorem rowN_mem {ps : List (Str × Value)} {c x : Nat} : x ∈ rowN ps c ↔ ∃ q ∈ ps, clsN q.1 = c ∧ markN q.2 = x := by
  unfold rowN
  rw [List.mem_map]
  constructor
  · rintro ⟨q, hq, e⟩
    rw [List.mem_filter, beq_iff_eq] at hq
    exact ⟨q, hq.1, hq.2, e⟩
  · rintro ⟨q, hq, e1, e2⟩
    exact ⟨q, List.mem_filter.mpr ⟨hq, beq_iff_eq.mpr e1⟩, e2⟩
theorem good_rows {ps : List (Str × Value)} (h : ∀ q ∈ ps, PairOk q) : (∀ q ∈ ps, goodPr q) ↔ (rowN ps 4 = [] ∧ ∀ x ∈ rowN ps 0 ++ rowN ps 1 ++ rowN ps 2 ++ rowN ps 3 ++ rowN ps 4, x = 120) := by
  constructor
  · intro hg
    have e4 : rowN ps 4 = [] := by
      rw [List.eq_nil_iff_forall_not_mem]
      intro x hx
      obtain ⟨q, hq, e, -⟩ := rowN_mem.mp hx
      exact ((good_iff (h q hq)).mp (hg q hq)).1 e
    refine ⟨e4, fun x hx => ?_⟩
    have key : ∀ c, x ∈ rowN ps c → x = 120 := fun c hx => by
      obtain ⟨q, hq, -, e⟩ := rowN_mem.mp hx
      rw [← e]; exact ((good_iff (h q hq)).mp (hg q hq)).2
    simp only [List.mem_append] at hx
    rcases hx with (((hx | hx) | hx) | hx) | hx <;> exact key _ hx
  · rintro ⟨e4, hx⟩ q hq
    have h5 := clsN_le q.1
    have h4 : clsN q.1 ≠ 4 := fun e => by
      have := rowN_mem.mpr ⟨q, hq, e, rfl⟩
      rw [e4] at this
      cases this
    refine (good_iff (h q hq)).mpr ⟨h4, hx _ ?_⟩
    have hm : markN q.2 ∈ rowN ps (clsN q.1) := rowN_mem.mpr ⟨q, hq, rfl, rfl⟩
    have : clsN q.1 = 0 ∨ clsN q.1 = 1 ∨ clsN q.1 = 2 ∨ clsN q.1 = 3 := nlt4 (by first | with_reducible assumption | omega)
    simp only [List.mem_append]
    rcases this with e | e | e | e <;> rw [e] at hm <;> simp [hm]
theorem getv_row {nm : Str} (h4 : clsN nm < 4) : ∀ {ps : List (Str × Value)}, (∀ q ∈ ps, VBig q.2) → (getv ps (Txt.lower nm) ≠ .none ↔ ((rowN ps (clsN nm)).take 1 == [120] || (rowN ps (clsN nm)).take 1 == [111]) = true)
  | [], _ => by
    show (Value.none ≠ .none) ↔ _
    exact ⟨fun h => absurd rfl h, fun h => by cases h⟩
  | q :: r, h => by
    have ih := getv_row h4 (fun p hp => h p (.tail _ hp))
    unfold getv at ih ⊢
    unfold rowN at ih ⊢
    by_cases e : Txt.lower q.1 = Txt.lower nm
    · have e2 := (keys_apart h4).mp e
      rw [List.find?_cons_of_pos (by simpa using e), List.filter_cons_of_pos (by simpa using e2)]
      simp only [List.map_cons, List.take_succ_cons, List.take_zero]
      rcases h q (.head _) with ⟨s, t, e, -⟩ | ⟨t, e⟩ | e
      · rw [e]
        refine ⟨fun _ => ?_, fun _ h => by cases h⟩
        have e1 : markN (.str s t) = if ctlIn isCtlV s.cps then 111 else 120 := rfl
        rw [e1]
        cases ctlIn isCtlV s.cps <;> rfl
      · rw [e]
        exact ⟨fun _ => rfl, fun _ h => by cases h⟩
      · rw [e]
        exact ⟨fun h => absurd rfl h, fun h => by cases h⟩
    · have e2 : ¬ clsN q.1 = clsN nm := fun h2 => e ((keys_apart h4).mpr h2)
      rw [List.find?_cons_of_neg (by simpa using e), List.filter_cons_of_neg (by simpa using e2)]
      exact ih
end
section
theorem kw45 : True := by
  w_top off
  trivial
def dueStmt : Stmt := pg.main.body.getD (pg.main.body.length - 3) (.Pass default)
def dueBody : List Stmt := match dueStmt with
  | .FunctionDef _ _ b _ _ _ _ _ _ _ => b
  | _ => []
def dueScope : Scope := match dueStmt with
  | .FunctionDef _ _ _ _ _ _ sc _ _ _ => sc
  | _ => default
/-- the row of the name at a place -/
def whichP (z : Int) : Nat := [0, 0, 1, 1, 2, 3, 4, 4].getD z.toNat 0
def textV (sg : Str) (z : Int) : Value := (textsV sg 0 0 0 0 0 0 0).toList.getD z.toNat .none
def faultT (sg : Str) (z : Int) : Str := faultV (textV sg z)
def markT (sg : Str) (z : Int) : Nat := markN (textV sg z)
def faultP (big : Bool) (z : Int) : Str := if z = 6 then vE else if z = 7 then (if big then aE (.int 7 0) else vE) else Str.ofString ""
theorem TextAt.same {sg : Str} {z : Int} {v : Value} (h : TextAt sg z v) : faultV v = faultT sg z ∧ markN v = markT sg z ∧ (v = .none ↔ z = 6) := by
  rcases h with ⟨rfl, t, rfl⟩ | ⟨rfl, t, rfl⟩ | ⟨rfl, t, rfl⟩ | ⟨rfl, t, rfl⟩ | ⟨rfl, t, rfl⟩ | ⟨rfl, t, rfl⟩ | ⟨rfl, rfl⟩ | ⟨rfl, t, rfl⟩
  · exact ⟨rfl, rfl, ⟨fun h => (by cases h), fun h => absurd h (by decide)⟩⟩
  · exact ⟨rfl, rfl, ⟨fun h => (by cases h), fun h => absurd h (by decide)⟩⟩
  · exact ⟨rfl, rfl, ⟨fun h => (by cases h), fun h => absurd h (by decide)⟩⟩
  · exact ⟨rfl, rfl, ⟨fun h => (by cases h), fun h => absurd h (by decide)⟩⟩
  · exact ⟨rfl, rfl, ⟨fun h => (by cases h), fun h => absurd h (by decide)⟩⟩
  · exact ⟨rfl, rfl, ⟨fun h => (by cases h), fun h => absurd h (by decide)⟩⟩
  · exact ⟨rfl, rfl, ⟨fun _ => rfl, fun _ => rfl⟩⟩
  · exact ⟨rfl, rfl, ⟨fun h => (by cases h), fun h => absurd h (by decide)⟩⟩
theorem vE_ne : vE ≠ Str.ofString "" := by decide +kernel
theorem aE_ne (v : Value) : aE v ≠ Str.ofString "" := by
  intro h
  have h2 := congrArg Str.length h
  unfold aE at h2
  rw [PySem.Str.length_append, show (Str.ofString "AssertionError ").length = 15 from by decide +kernel, show (Str.ofString "").length = 0 from by decide +kernel] at h2
  omega
theorem mark_good {v : Value} (h : goodV isCtlV v) : markN v = 120 := by
  obtain ⟨s, t, rfl, h⟩ := h
  show (if ctlIn isCtlV s.cps then 111 else 120) = 120
  rw [h]; rfl
/-- the signs: the tab lets a value pass -/
theorem sign_tab : faultT (Str.ofString "\t") 4 = Str.ofString "" ∧ faultT (Str.ofString "\t") 7 = Str.ofString "" ∧ markT (Str.ofString "\t") 4 = 120 ∧ markT (Str.ofString "\t") 7 = 120 := by decide +kernel
theorem sign_else {sg : Str} (hs : SignOk sg) (h : sg ≠ Str.ofString "\t") : faultT sg 4 = vE ∧ faultT sg 7 = vE ∧ markT sg 4 = 111 ∧ markT sg 7 = 111 := by
  obtain ⟨c, hc, rfl⟩ := hs
  have : ∀ c < 128, (c < 32 ∨ c = 127) → (⟨#[c]⟩ : Str) ≠ Str.ofString "\t" → faultT ⟨#[c]⟩ 4 = vE ∧ faultT ⟨#[c]⟩ 7 = vE ∧ markT ⟨#[c]⟩ 4 = 111 ∧ markT ⟨#[c]⟩ 7 = 111 := by decide +kernel
  exact this c (by omega) hc h
/-- a name at its place: what it brings -/
theorem NmAt.info {sg : Str} {z : Int} {nm : Str} (hs : SignOk sg) (h : NmAt sg z nm) : (ctlIn isCtlN nm.cps = true ∧ (z = 6 ∨ z = 7) ∧ clsN nm = 4 ∧ whichP z = 4) ∨ (ctlIn isCtlN nm.cps = false ∧ z ≠ 6 ∧ z ≠ 7 ∧ clsN nm < 4 ∧ clsN nm = whichP z) := by
  rcases h with ⟨h0, h6, h⟩ | ⟨rfl, rfl⟩ | ⟨rfl, rfl⟩
  · refine .inr ⟨h.facts.2.1, by omega, by omega, ?_⟩
    unfold NameG at h
    have hk : z = 0 ∨ z = 1 ∨ z = 2 ∨ z = 3 ∨ z = 4 ∨ z = 5 := zlt6 (by first | with_reducible assumption | omega)
    rcases hk with rfl | rfl | rfl | rfl | rfl | rfl <;> (cases h; decide +kernel)
  · obtain ⟨c, hc, rfl⟩ := hs
    have : ∀ c < 128, (c < 32 ∨ c = 127) → ctlIn isCtlN (Str.ofString "b" ++ ⟨#[c]⟩).cps = true ∧ clsN (Str.ofString "b" ++ ⟨#[c]⟩) = 4 := by decide +kernel
    have h := this c (by omega) hc
    exact .inl ⟨h.1, .inl rfl, h.2, rfl⟩
  · obtain ⟨c, hc, rfl⟩ := hs
    have : ∀ c < 128, (c < 32 ∨ c = 127) → ctlIn isCtlN (⟨#[c]⟩ ++ Str.ofString "A").cps = true ∧ clsN (⟨#[c]⟩ ++ Str.ofString "A") = 4 := by decide +kernel
    have h := this c (by omega) hc
    exact .inl ⟨h.1, .inr rfl, h.2, rfl⟩
theorem whichP_lt {z : Int} (h : 0 ≤ z ∧ z < 8) : whichP z < 5 := by
  have hk : z = 0 ∨ z = 1 ∨ z = 2 ∨ z = 3 ∨ z = 4 ∨ z = 5 ∨ z = 6 ∨ z = 7 := zlt8 (by first | with_reducible assumption | omega)
  rcases hk with rfl | rfl | rfl | rfl | rfl | rfl | rfl | rfl <;> decide
section
variable {prog : Program} {w : World} {A : Around} {E : Value → Shared → Prop} {s : Shared} {h₀ : Heap} {L : Addr} {m : Str → Option Value} {news : List (Addr × Obj)}
end
abbrev dueEnv (L : Addr) : Env := envOfC (Str.ofString "_law_due") dueScope L 200 (.ref 199)
theorem leaveK_plain {h₀ g : Heap} {L L' : Addr} {m m' : Str → Option Value} {news' : List (Addr × Obj)} {R : Result → Shared → Prop} {v : Value} {s' : Shared} (F : Fr g L' s'.heap m') (N : News g L' s'.heap news') (k : Fr h₀ L s'.heap m → News h₀ L s'.heap news' → R (.ok (.ret v)) s') : LeaveK h₀ L m g R v s' := ⟨L', m', news', F, N, k⟩
theorem whichI {z : Int} (h : 0 ≤ z ∧ z < 8) : ([0, 0, 1, 1, 2, 3, 4, 4] : List Int).getD z.toNat 0 = (whichP z : Int) := by
  have hk : z = 0 ∨ z = 1 ∨ z = 2 ∨ z = 3 ∨ z = 4 ∨ z = 5 ∨ z = 6 ∨ z = 7 := zlt8 (by first | with_reducible assumption | omega)
  rcases hk with rfl | rfl | rfl | rfl | rfl | rfl | rfl | rfl <;> decide
/-- the mark of the two signed texts -/
def markS (sg : Str) : Str := ofL [markT sg 4]
theorem markS_tab : markS (Str.ofString "\t") = Str.ofString "x" := by decide +kernel
theorem markS_else {sg : Str} (hs : SignOk sg) (h : sg ≠ Str.ofString "\t") : markS sg = Str.ofString "o" := by
  unfold markS
  rw [(sign_else hs h).2.2.1]
  decide +kernel
end
section
theorem kw46 : True := by
  w_top off
  trivial
theorem len_two {x y : Str} (h1 : x.length ≤ 2000) (h2 : y.length ≤ 10) : x.length + y.length ≤ sizeLine := by rw [sizeLine_eq]; omega
theorem ofL1_len {c : Nat} : (ofL [c]).length ≤ 10 := by rw [ofL_len]; exact (by decide : 1 ≤ 10)
theorem rowx_len : (Str.ofString "x").length ≤ 10 := by decide +kernel
section
variable {prog : Program} {w : World} {A : Around} {E : Value → Shared → Prop} {s : Shared} {h₀ : Heap} {L a : Addr} {m : Str → Option Value} {news : List (Addr × Obj)} {rs : List Str}
theorem row_pickN {n : Nat} {u : Tok} {value slice : Expr} {Q : Value → Shared → Prop} (N : News h₀ L s.heap news) (R : RowAt news a rs) (hz : n < 5) (h : ∀ t, Q (.str (rs.getD n default) t) s)
    (hs : subscripted slice false (.ref a) (.int (n : Int) u) = operate [.ref a, .int (n : Int) u] (getItem (.ref a) (.int (n : Int) u)) := by with_unfolding_all rfl):
    wpAny (model prog w) A (subscriptTail value slice (.ref a) (.int (n : Int) u)) Q E s := row_pick N R ⟨by omega, by omega⟩ h hs
theorem row_pick4 {u : Tok} {value slice : Expr} {Q : Value → Shared → Prop} (N : News h₀ L s.heap news) (R : RowAt news a rs) (h : ∀ t, Q (.str (rs.getD 4 default) t) s)
    (hs : subscripted slice false (.ref a) (.int 4 u) = operate [.ref a, .int 4 u] (getItem (.ref a) (.int 4 u)) := by with_unfolding_all rfl):
    wpAny (model prog w) A (subscriptTail value slice (.ref a) (.int 4 u)) Q E s := row_pick N R ⟨by omega, by omega⟩ h hs
theorem row_pick0 {u : Tok} {value slice : Expr} {Q : Value → Shared → Prop} (N : News h₀ L s.heap news) (R : RowAt news a rs) (h : ∀ t, Q (.str (rs.getD 0 default) t) s)
    (hs : subscripted slice false (.ref a) (.int 0 u) = operate [.ref a, .int 0 u] (getItem (.ref a) (.int 0 u)) := by with_unfolding_all rfl):
    wpAny (model prog w) A (subscriptTail value slice (.ref a) (.int 0 u)) Q E s := row_pick N R ⟨by omega, by omega⟩ h hs
theorem row_itemN {n : Nat} {u : Tok} {Q : Value → Shared → Prop} (N : News h₀ L s.heap news) (R : RowAt news a rs) (hz : n < 5) (h : ∀ t, Q (.str (rs.getD n default) t) s) :
    wpAny (model prog w) A (getItem (.ref a) (.int (n : Int) u)) Q E s := row_item N R ⟨by omega, by omega⟩ h
theorem row_setN {n : Nat} {u ty : Tok} {y : Str} {Q : Unit → Shared → Prop} (F : Fr h₀ L s.heap m) (N : News h₀ L s.heap news) (R : RowAt news a rs) (hz : n < 5)
    (h : ∀ h' news', Fr h₀ L h' m → News h₀ L h' news' → Kept a news news' → RowAt news' a (rs.set n y) → Q () { s with heap := h' }) :
    wpAny (model prog w) A (setItem (.ref a) (.int (n : Int) u) (.str y ty)) Q E s := row_set F N R ⟨by omega, by omega⟩ h
theorem mark_pick {D : Addr} {sg : Str} {t0 t1 t2 t3 t4 t5 t6 t7 : Tok} {k : Nat} {z : Int} {u : Tok} {value slice : Expr} {Q : Value → Shared → Prop} (N : News h₀ L s.heap news) (hl : (D, listOf #[.str (Str.ofString "x") t0, .str (Str.ofString "x") t1, .str (Str.ofString "x") t2, .str (Str.ofString "x") t3, .str (markS sg) t4, .str (Str.ofString "o") t5, .str (Str.ofString "n") t6, .str (markS sg) t7] k) ∈ news)
    (hz : 0 ≤ z ∧ z < 8) (hsg : SignOk sg) (h : ∀ t, Q (.str (ofL [markT sg z]) t) s)
    (hs : subscripted slice false (.ref D) (.int z u) = operate [.ref D, .int z u] (getItem (.ref D) (.int z u)) := by with_unfolding_all rfl) (hg : ∀ r, letTemporaryGo value (.ref D) r = pure () := by intro _; with_unfolding_all rfl) :
    wpAny (model prog w) A (subscriptTail value slice (.ref D) (.int z u)) Q E s := by
  have e7 : markT sg 7 = markT sg 4 := by
    by_cases h : sg = Str.ofString "\t"
    · subst h; exact sign_tab.2.2.2.trans sign_tab.2.2.1.symm
    · exact (sign_else hsg h).2.2.2.trans (sign_else hsg h).2.2.1.symm
  have hk : z = 0 ∨ z = 1 ∨ z = 2 ∨ z = 3 ∨ z = 4 ∨ z = 5 ∨ z = 6 ∨ z = 7 := zlt8 (by first | with_reducible assumption | omega)
  have k0 : Str.ofString "x" = ofL [markT sg 0] := by show _ = ofL [markT (Str.ofString "\t") 0]; decide +kernel
  have k1 : Str.ofString "x" = ofL [markT sg 1] := by show _ = ofL [markT (Str.ofString "\t") 1]; decide +kernel
  have k2 : Str.ofString "x" = ofL [markT sg 2] := by show _ = ofL [markT (Str.ofString "\t") 2]; decide +kernel
  have k3 : Str.ofString "x" = ofL [markT sg 3] := by show _ = ofL [markT (Str.ofString "\t") 3]; decide +kernel
  have k5 : Str.ofString "o" = ofL [markT sg 5] := by show _ = ofL [markT (Str.ofString "\t") 5]; decide +kernel
  have k6 : Str.ofString "n" = ofL [markT sg 6] := by show _ = ofL [markT (Str.ofString "\t") 6]; decide +kernel
  have key : ∃ t, ([Value.str (Str.ofString "x") t0, .str (Str.ofString "x") t1, .str (Str.ofString "x") t2, .str (Str.ofString "x") t3, .str (markS sg) t4, .str (Str.ofString "o") t5, .str (Str.ofString "n") t6, .str (markS sg) t7] : List Value)[z.toNat]? = some (.str (ofL [markT sg z]) t) := by
    rcases hk with rfl | rfl | rfl | rfl | rfl | rfl | rfl | rfl
    · rw [← k0]; exact ⟨_, rfl⟩
    · rw [← k1]; exact ⟨_, rfl⟩
    · rw [← k2]; exact ⟨_, rfl⟩
    · rw [← k3]; exact ⟨_, rfl⟩
    · exact ⟨_, rfl⟩
    · rw [← k5]; exact ⟨_, rfl⟩
    · rw [← k6]; exact ⟨_, rfl⟩
    · rw [e7]; exact ⟨_, rfl⟩
  obtain ⟨t, e⟩ := key
  exact item_at N hl e hz.1 (by omega) (h t) hs hg
end
theorem bne_abs {a b : Str} (h : (a != b) = true) (e : a = b) : False := by
  subst e
  simp at h
theorem bne_eq {a b : Str} (h : (a != b) = false) : a = b := by simpa using h
theorem strs_snoc {zs : List Value} {xs : List Str} (h : StrsAre zs xs) (y : Str) (t : Tok) : StrsAre (zs ++ [.str y t]) (xs ++ [y]) := by
  induction h with
  | nil => exact .cons _ _ .nil
  | cons a u _ ih => exact .cons _ _ ih
def turned (place : Int) (l : List Nat) : Str := ofL (if place < 4 then l.reverse else [])
section
variable {prog : Program} {w : World} {A : Around} {E : Value → Shared → Prop} {s : Shared} {h₀ : Heap} {L r r0 r1 r2 : Addr} {m : Str → Option Value} {news : List (Addr × Obj)}
theorem outer_set {rk : Nat} {u : Tok} {D : Addr} {Q : Unit → Shared → Prop} (F : Fr h₀ L s.heap m) (N : News h₀ L s.heap news) (hr : (r, listOf #[.ref r0, .ref r1, .ref r2] rk) ∈ news)
    (h : ∀ h' news' k, Fr h₀ L h' m → News h₀ L h' news' → Kept r news news' → (r, listOf #[.ref D, .ref r1, .ref r2] k) ∈ news' → Q () { s with heap := h' }) :
    wpAny (model prog w) A (setItem (.ref r) (.int 0 u) (.ref D)) Q E s := by
  have q := N _ hr
  refine ki_setAt q.1 (by decide) (by decide) (show (0 : Int) < ((3 : Nat) : Int) by decide) ?_
  obtain ⟨n', hn⟩ := mapSeq_to (fun xs => xs.setIfInBounds (0 : Int).toNat (.ref D)) #[.ref r0, .ref r1, .ref r2] rk
  have hs : Heap.SameBut r s.heap (s.heap.update r (Obj.mapSeq fun xs => xs.setIfInBounds (0 : Int).toNat (.ref D))) := Heap.SameBut.update ..
  have ho : (s.heap.update r (Obj.mapSeq fun xs => xs.setIfInBounds (0 : Int).toNat (.ref D))).get? r = some (listOf (#[.ref D, .ref r1, .ref r2]) n') := by
    rw [Heap.get?_update_self _ q.1 (by rw [hn]; rfl), hn]
    rfl
  exact h _ _ n' (F.change hs q.2.1 q.2.2) (news_upd N hr hs ho) Kept.upd (mem_upd_self hr)
end
end
section
theorem kw47 : True := by
  w_top off
  trivial
def faultsL (sg : Str) : List Str := [faultT sg 0, faultT sg 1, faultT sg 2, faultT sg 3, faultT sg 4, faultT sg 5, faultT sg 6, faultT sg 7]
def FaultsAt (news : List (Addr × Obj)) (sg : Str) (D : Addr) : Prop := ∃ its k, (D, listOf its k) ∈ news ∧ StrsAre its.toList (faultsL sg)
theorem ctlW_eq : (Str.ofString "ValueError Control characters not allowed in headers") = vE := by decide +kernel
theorem wrong7_eq : (Str.ofString "AssertionError Header names/values must be of type str (got 7)") = aE (.int 7 0) := by decide +kernel
theorem faults_tab : faultsL (Str.ofString "\t") = [Str.ofString "", Str.ofString "", Str.ofString "", Str.ofString "", Str.ofString "", (Str.ofString "AssertionError Header names/values must be of type str (got 7)"), (Str.ofString "AssertionError Header names/values must be of type str (got None)"), Str.ofString ""] := by decide +kernel
theorem faults_else {sg : Str} (hs : SignOk sg) (h : sg ≠ Str.ofString "\t") : faultsL sg = [Str.ofString "", Str.ofString "", Str.ofString "", Str.ofString "", (Str.ofString "ValueError Control characters not allowed in headers"), (Str.ofString "AssertionError Header names/values must be of type str (got 7)"), (Str.ofString "AssertionError Header names/values must be of type str (got None)"), (Str.ofString "ValueError Control characters not allowed in headers")] := by
  unfold faultsL
  rw [(sign_else hs h).1, (sign_else hs h).2.1, ctlW_eq]
  show [faultT (Str.ofString "\t") 0, faultT (Str.ofString "\t") 1, faultT (Str.ofString "\t") 2, faultT (Str.ofString "\t") 3, vE, faultT (Str.ofString "\t") 5, faultT (Str.ofString "\t") 6, vE] = _
  decide +kernel
theorem FaultsAt.mono {n n' : List (Addr × Obj)} {sg : Str} {D : Addr} (h : FaultsAt n sg D) (k : ∀ q ∈ n, q ∈ n') : FaultsAt n' sg D := let ⟨its, c, hm, hi⟩ := h; ⟨its, c, k _ hm, hi⟩
section
variable {prog : Program} {w : World} {A : Around} {E : Value → Shared → Prop} {s : Shared} {h₀ : Heap} {L : Addr} {m : Str → Option Value} {news : List (Addr × Obj)}
theorem faults_pick {D : Addr} {sg : Str} {z : Int} {u : Tok} {value slice : Expr} {Q : Value → Shared → Prop} (N : News h₀ L s.heap news) (hl : FaultsAt news sg D)
    (hz : 0 ≤ z ∧ z < 8) (h : ∀ t, Q (.str (faultT sg z) t) s)
    (hs : subscripted slice false (.ref D) (.int z u) = operate [.ref D, .int z u] (getItem (.ref D) (.int z u)) := by with_unfolding_all rfl) :
    wpAny (model prog w) A (subscriptTail value slice (.ref D) (.int z u)) Q E s := by
  obtain ⟨its, k, hm, hi⟩ := hl
  have hy : (faultsL sg)[z.toNat]? = some (faultT sg z) := by
    have hk : z = 0 ∨ z = 1 ∨ z = 2 ∨ z = 3 ∨ z = 4 ∨ z = 5 ∨ z = 6 ∨ z = 7 := zlt8 (by first | with_reducible assumption | omega)
    rcases hk with rfl | rfl | rfl | rfl | rfl | rfl | rfl | rfl <;> rfl
  obtain ⟨t, ht⟩ := StrsAre.at hi hy
  have hL : s.heap.IsList D its := ⟨_, (N _ hm).1, rfl, k, rfl⟩
  exact tail_any hL.typeIs slot_list_getitem.lookup (wpAny_getItem_list hL hz.1 (by omega) (by rw [← Array.getElem?_toList]; exact ht) (h t)) hs
theorem fault_pick {D : Addr} {b : Bool} {X : Str} {t0 t1 t2 t3 t4 t5 t6 t7 : Tok} {k : Nat} {z : Int} {u : Tok} {value slice : Expr} {Q : Value → Shared → Prop} (N : News h₀ L s.heap news) (hl : (D, listOf #[.str (Str.ofString "") t0, .str (Str.ofString "") t1, .str (Str.ofString "") t2, .str (Str.ofString "") t3, .str (Str.ofString "") t4, .str (Str.ofString "") t5, .str (Str.ofString "ValueError Control characters not allowed in headers") t6, .str X t7] k) ∈ news)
    (hz : 0 ≤ z ∧ z < 8) (hX : X = faultP b 7) (h : ∀ t, Q (.str (faultP b z) t) s)
    (hs : subscripted slice false (.ref D) (.int z u) = operate [.ref D, .int z u] (getItem (.ref D) (.int z u)) := by with_unfolding_all rfl) :
    wpAny (model prog w) A (subscriptTail value slice (.ref D) (.int z u)) Q E s := by
  subst hX
  have hk : z = 0 ∨ z = 1 ∨ z = 2 ∨ z = 3 ∨ z = 4 ∨ z = 5 ∨ z = 6 ∨ z = 7 := zlt8 (by first | with_reducible assumption | omega)
  have key : ∃ t, ([Value.str (Str.ofString "") t0, .str (Str.ofString "") t1, .str (Str.ofString "") t2, .str (Str.ofString "") t3, .str (Str.ofString "") t4, .str (Str.ofString "") t5, .str (Str.ofString "ValueError Control characters not allowed in headers") t6, .str (faultP b 7) t7] : List Value)[z.toNat]? = some (.str (faultP b z) t) := by
    rw [ctlW_eq]
    rcases hk with rfl | rfl | rfl | rfl | rfl | rfl | rfl | rfl <;> exact ⟨_, rfl⟩
  obtain ⟨t, e⟩ := key
  have hL : s.heap.IsList D _ := ⟨_, (N _ hl).1, rfl, k, rfl⟩
  exact tail_any hL.typeIs slot_list_getitem.lookup (wpAny_getItem_list hL hz.1 (by omega) (by rw [← Array.getElem?_toList]; exact e) (h t)) hs
theorem xP_true : (Str.ofString "AssertionError Header names/values must be of type str (got 7)") = faultP true 7 := wrong7_eq
theorem xP_false : (Str.ofString "ValueError Control characters not allowed in headers") = faultP false 7 := ctlW_eq
end
theorem ite_ne1 {a b : Prop} {z c : Int} (h : z ≠ c) (hb : b) : if (z == c) = true then a else b := by
  rw [if_neg (by rw [beq_iff_eq]; exact h)]
  exact hb
theorem FaultsAt.kept {l : Addr} {n n' : List (Addr × Obj)} {sg : Str} {D : Addr} (h : FaultsAt n sg D) (K : Kept l n n') (hne : D ≠ l) : FaultsAt n' sg D := let ⟨its, c, hm, hi⟩ := h; ⟨its, c, K _ hm hne, hi⟩
end
section
theorem kw48 : True := by
  w_top off
  trivial
theorem bne_ne {a b : Str} (h : (a != b) = true) : a ≠ b := fun e => bne_abs h e
/-- what _law_due does to a row, kinds 0 to 4; c the row's place -/
def Due0 (fp fv : Str) (c : Nat) (R R' : List Str) (a : Str) : Prop := (fp ≠ Str.ofString "" ∧ R' = R ∧ a = fp) ∨ (fp = Str.ofString "" ∧ fv ≠ Str.ofString "" ∧ R' = R.set c (Str.ofString "") ∧ a = fv) ∨ (fp = Str.ofString "" ∧ fv = Str.ofString "" ∧ R' = (R.set c (Str.ofString "")).set c ((R.set c (Str.ofString "")).getD c default ++ Str.ofString "x") ∧ a = Str.ofString "")
def Due1 (fp : Str) (c : Nat) (R R' : List Str) (a : Str) : Prop := (fp ≠ Str.ofString "" ∧ R' = R ∧ a = fp) ∨ (fp = Str.ofString "" ∧ R' = R.set c (Str.ofString "") ∧ a = Str.ofString "")
def firstX (y : Str) : Bool := [Str.ofString "x", Str.ofString "o"].any (· == Txt.slice y none (some 1))
def Due2 (fp fv : Str) (c : Nat) (R R' : List Str) (a : Str) : Prop := (fp ≠ Str.ofString "" ∧ R' = R ∧ a = fp) ∨ (fp = Str.ofString "" ∧ firstX (R.getD c default) = true ∧ R' = R ∧ a = Str.ofString "") ∨ (fp = Str.ofString "" ∧ firstX (R.getD c default) = false ∧ fv ≠ Str.ofString "" ∧ R' = R ∧ a = fv) ∨ (fp = Str.ofString "" ∧ firstX (R.getD c default) = false ∧ fv = Str.ofString "" ∧ R' = R.set c (R.getD c default ++ Str.ofString "x") ∧ a = Str.ofString "")
def DueN (fp : Str) (c : Nat) (R R' : List Str) (a : Str) : Prop := (fp ≠ Str.ofString "" ∧ R' = R ∧ a = fp) ∨ (fp = Str.ofString "" ∧ R' = R.set c (R.getD c default ++ Str.ofString "x") ∧ a = Str.ofString "")
def Due3 (fp fv : Str) (value : Int) (c : Nat) (R R' : List Str) (a : Str) : Prop := (value ≠ 6 ∧ fv ≠ Str.ofString "" ∧ R' = R ∧ a = fv) ∨ ((value = 6 ∨ fv = Str.ofString "") ∧ DueN fp c R R' a)
def Due4 (fp fv fe : Str) (value extra : Int) (c : Nat) (R R' : List Str) (a : Str) : Prop := (value ≠ 6 ∧ fv ≠ Str.ofString "" ∧ R' = R ∧ a = fv) ∨ ((value = 6 ∨ fv = Str.ofString "") ∧ ((extra ≠ 6 ∧ fe ≠ Str.ofString "" ∧ R' = R ∧ a = fe) ∨ ((extra = 6 ∨ fe = Str.ofString "") ∧ DueN fp c R R' a)))
theorem kept_tr {l : Addr} {a b c : List (Addr × Obj)} (h1 : Kept l a b) (h2 : Kept l b c) : Kept l a c := fun q hq hne => h2 q (h1 q hq hne) hne
end
section
theorem kw49 : True := by
  w_top off
  trivial
def homeOf (t : Nat) : Nat := [0, 0, 1, 2].getD t 0
def updf {α : Type} (f : Nat → α) (i : Nat) (a : α) : Nat → α := fun j => if j = i then a else f j
theorem updf_self {α : Type} (f : Nat → α) (i : Nat) (a : α) : updf f i a i = a := if_pos rfl
theorem updf_ne {α : Type} (f : Nat → α) {i j : Nat} (a : α) (h : j ≠ i) : updf f i a j = f j := if_neg h
theorem updf_map {α β : Type} (g : α → β) (f : Nat → α) (i : Nat) (a : α) : (fun j => g (updf f i a j)) = updf (fun j => g (f j)) i (g a) := by
  funext j
  unfold updf
  split <;> rfl
/-- an answer, as it lies in the ledger; f the entries that stood before -/
def AnsIs (f n : List (Addr × Obj)) : Ans → Value → Prop
  | .txt s, v => ∃ t, v = .str s t
  | .two a b, v => ∃ R k t1 t2, v = .ref R ∧ (R, listOf #[.int (a : Int) t1, .int (b : Int) t2] k) ∈ n ∧ ∀ q ∈ f, q.1 ≠ R
def DueK (kind place value extra : Int) (sg : Str) (R R' : List Str) (a : Str) : Prop :=
  (kind = 0 ∧ Due0 (faultP false place) (faultT sg value) (whichP place) R R' a) ∨ (kind = 1 ∧ Due1 (faultP false place) (whichP place) R R' a) ∨ (kind = 2 ∧ Due2 (faultP false place) (faultT sg value) (whichP place) R R' a) ∨
  (kind = 3 ∧ Due3 (faultP true place) (faultT sg value) value (whichP place) R R' a) ∨ (kind = 4 ∧ Due4 (faultP true place) (faultT sg value) (faultT sg extra) value extra (whichP place) R R' a)
def turnedS (place : Int) (x : Str) : Str := turned place x.cps.toList
theorem turnedS_ofL (place : Int) (l : List Nat) : turnedS place (ofL l) = turned place l := rfl
/-- what a copy answers -/
def copyAns (R : List Str) : Ans := if R.getD 4 default = Str.ofString "" ∧ Txt.stripChars (Txt.join (Str.ofString "") R) (Str.ofString "x") = Str.ofString "" then .two (Txt.join (Str.ofString "") R).length ((Txt.join (Str.ofString "") R).length - (R.getD 0 default).length + 1) else .txt (Str.ofString "refused")
def DueAll (kind place value extra : Int) (sg : Str) (home : Nat) (Rs Rs' : Nat → List Str) (ans : Ans) : Prop :=
  (∃ R' a, DueK kind place value extra sg (Rs home) R' a ∧ Rs' = updf Rs home R' ∧ ans = .txt a) ∨
  (kind = 5 ∧ Rs' = updf Rs 0 ((Rs 0).set (whichP place) ((Rs 0).getD (whichP place) default ++ ofL [markT sg value])) ∧ ans = .txt (Str.ofString "")) ∨
  (kind = 6 ∧ Rs' = updf Rs 0 ((Rs 0).map (turnedS place)) ∧ ans = .txt (Str.ofString "")) ∨
  (kind = 7 ∧ Rs' = Rs ∧ ans = copyAns (Rs home))
theorem Due0.fn {fp fv : Str} {c : Nat} {R R1 R2 : List Str} {a1 a2 : Str} (h1 : Due0 fp fv c R R1 a1) (h2 : Due0 fp fv c R R2 a2) : R1 = R2 ∧ a1 = a2 := by
  rcases h1 with ⟨x, rfl, rfl⟩ | ⟨x, y, rfl, rfl⟩ | ⟨x, y, rfl, rfl⟩ <;> rcases h2 with ⟨u, rfl, rfl⟩ | ⟨u, v, rfl, rfl⟩ | ⟨u, v, rfl, rfl⟩ <;> first | exact ⟨rfl, rfl⟩ | exact absurd (by assumption) x | exact absurd (by assumption) u | exact absurd (by assumption) y | exact absurd (by assumption) v
theorem Due1.fn {fp : Str} {c : Nat} {R R1 R2 : List Str} {a1 a2 : Str} (h1 : Due1 fp c R R1 a1) (h2 : Due1 fp c R R2 a2) : R1 = R2 ∧ a1 = a2 := by
  rcases h1 with ⟨x, rfl, rfl⟩ | ⟨x, rfl, rfl⟩ <;> rcases h2 with ⟨u, rfl, rfl⟩ | ⟨u, rfl, rfl⟩ <;> first | exact ⟨rfl, rfl⟩ | exact absurd (by assumption) x | exact absurd (by assumption) u
theorem DueN.fn {fp : Str} {c : Nat} {R R1 R2 : List Str} {a1 a2 : Str} (h1 : DueN fp c R R1 a1) (h2 : DueN fp c R R2 a2) : R1 = R2 ∧ a1 = a2 := by
  rcases h1 with ⟨x, rfl, rfl⟩ | ⟨x, rfl, rfl⟩ <;> rcases h2 with ⟨u, rfl, rfl⟩ | ⟨u, rfl, rfl⟩ <;> first | exact ⟨rfl, rfl⟩ | exact absurd (by assumption) x | exact absurd (by assumption) u
theorem Due2.fn {fp fv : Str} {c : Nat} {R R1 R2 : List Str} {a1 a2 : Str} (h1 : Due2 fp fv c R R1 a1) (h2 : Due2 fp fv c R R2 a2) : R1 = R2 ∧ a1 = a2 := by
  rcases h1 with ⟨x, rfl, rfl⟩ | ⟨x, y, rfl, rfl⟩ | ⟨x, y, z, rfl, rfl⟩ | ⟨x, y, z, rfl, rfl⟩ <;> rcases h2 with ⟨u, rfl, rfl⟩ | ⟨u, v, rfl, rfl⟩ | ⟨u, v, t, rfl, rfl⟩ | ⟨u, v, t, rfl, rfl⟩ <;>
    first | exact ⟨rfl, rfl⟩ | exact absurd (by assumption) x | exact absurd (by assumption) u | exact absurd (y.symm.trans v) (by decide) | exact absurd t z | exact absurd z t | exact absurd rfl z | exact absurd rfl t
theorem Due3.fn {fp fv : Str} {z : Int} {c : Nat} {R R1 R2 : List Str} {a1 a2 : Str} (h1 : Due3 fp fv z c R R1 a1) (h2 : Due3 fp fv z c R R2 a2) : R1 = R2 ∧ a1 = a2 := by
  rcases h1 with ⟨x, y, rfl, rfl⟩ | ⟨x, n1⟩ <;> rcases h2 with ⟨u, v, rfl, rfl⟩ | ⟨u, n2⟩
  · exact ⟨rfl, rfl⟩
  · rcases u with u | u
    · exact absurd u x
    · exact absurd u y
  · rcases x with x | x
    · exact absurd x u
    · exact absurd x v
  · exact n1.fn n2
theorem Due4.fn {fp fv fe : Str} {z e : Int} {c : Nat} {R R1 R2 : List Str} {a1 a2 : Str} (h1 : Due4 fp fv fe z e c R R1 a1) (h2 : Due4 fp fv fe z e c R R2 a2) : R1 = R2 ∧ a1 = a2 := by
  rcases h1 with ⟨x, y, rfl, rfl⟩ | ⟨x, n1⟩ <;> rcases h2 with ⟨u, v, rfl, rfl⟩ | ⟨u, n2⟩
  · exact ⟨rfl, rfl⟩
  · rcases u with u | u
    · exact absurd u x
    · exact absurd u y
  · rcases x with x | x
    · exact absurd x u
    · exact absurd x v
  · rcases n1 with ⟨x, y, rfl, rfl⟩ | ⟨x, n1⟩ <;> rcases n2 with ⟨u, v, rfl, rfl⟩ | ⟨u, n2⟩
    · exact ⟨rfl, rfl⟩
    · rcases u with u | u
      · exact absurd u x
      · exact absurd u y
    · rcases x with x | x
      · exact absurd x u
      · exact absurd x v
    · exact n1.fn n2
theorem DueK.fn {kind place value extra : Int} {sg : Str} {R R1 R2 : List Str} {a1 a2 : Str} (h1 : DueK kind place value extra sg R R1 a1) (h2 : DueK kind place value extra sg R R2 a2) : R1 = R2 ∧ a1 = a2 := by
  rcases h1 with ⟨rfl, h1⟩ | ⟨rfl, h1⟩ | ⟨rfl, h1⟩ | ⟨rfl, h1⟩ | ⟨rfl, h1⟩ <;> rcases h2 with ⟨e, h2⟩ | ⟨e, h2⟩ | ⟨e, h2⟩ | ⟨e, h2⟩ | ⟨e, h2⟩ <;> first | exact absurd e (by decide) | exact h1.fn h2
theorem DueK.lt {kind place value extra : Int} {sg : Str} {R R1 : List Str} {a1 : Str} (h1 : DueK kind place value extra sg R R1 a1) : kind < 5 := by
  rcases h1 with ⟨rfl, h1⟩ | ⟨rfl, h1⟩ | ⟨rfl, h1⟩ | ⟨rfl, h1⟩ | ⟨rfl, h1⟩ <;> decide
/-- what is due is one thing -/
theorem DueAll.fn {kind place value extra : Int} {sg : Str} {home : Nat} {Rs R1 R2 : Nat → List Str} {a1 a2 : Ans} (h1 : DueAll kind place value extra sg home Rs R1 a1) (h2 : DueAll kind place value extra sg home Rs R2 a2) : R1 = R2 ∧ a1 = a2 := by
  rcases h1 with ⟨R', a, k1, rfl, rfl⟩ | ⟨k1, rfl, rfl⟩ | ⟨k1, rfl, rfl⟩ | ⟨k1, rfl, rfl⟩ <;> rcases h2 with ⟨R'', a', k2, rfl, rfl⟩ | ⟨k2, rfl, rfl⟩ | ⟨k2, rfl, rfl⟩ | ⟨k2, rfl, rfl⟩ <;>
    first | exact ⟨rfl, rfl⟩ | (obtain ⟨e1, e2⟩ := k1.fn k2; rw [e1, e2]; exact ⟨rfl, rfl⟩) | (exfalso; have := k1.lt; omega) | (exfalso; have := k2.lt; omega) | (exfalso; omega)
end
section
theorem kw50 : True := by
  w_top off
  trivial
theorem VOk.big {v : Value} (h : VOk v) : VBig v := by
  rcases h with ⟨s, t, e, h⟩ | h | h
  · exact .inl ⟨s, t, e, by omega⟩
  · exact .inr (.inl h)
  · exact .inr (.inr h)
theorem faultP_good {b : Bool} {z : Int} (h6 : z ≠ 6) (h7 : z ≠ 7) : faultP b z = Str.ofString "" := by
  unfold faultP
  rw [if_neg h6, if_neg h7]
theorem faultP_bad {z : Int} (h : z = 6 ∨ z = 7) : faultP false z = vE := by
  rcases h with rfl | rfl <;> rfl
theorem rows_cut {nm : Str} {ps : List (Str × Value)} (h4 : clsN nm < 4) : (rowsL ps).set (clsN nm) (Str.ofString "") = rowsL (cutN nm ps) := by
  rw [ofL_nil]
  refine rowsL_set (by omega) ?_ fun k _ hk => ?_
  · rw [rowN_cut ps h4, if_pos rfl]
  · rw [rowN_cut ps h4, if_neg hk]
theorem rows_mark {nm : Str} {v : Value} {ps : List (Str × Value)} : (rowsL ps).set (clsN nm) ((rowsL ps).getD (clsN nm) default ++ ofL [markN v]) = rowsL (ps ++ [(nm, v)]) := by
  rw [rowsL_get ps (clsN_le nm), ofL_app]
  refine rowsL_set (clsN_le nm) ?_ fun k _ hk => ?_
  · rw [rowN_snoc, if_pos rfl]
  · rw [rowN_snoc, if_neg (Ne.symm hk), List.append_nil]
theorem rows_add {nm : Str} {v : Value} {ps : List (Str × Value)} (hm : markN v = 120) : (rowsL ps).set (clsN nm) ((rowsL ps).getD (clsN nm) default ++ Str.ofString "x") = rowsL (ps ++ [(nm, v)]) := by
  rw [ofL_x, ← hm]
  exact rows_mark
theorem ok_cut {nm : Str} {ps : List (Str × Value)} (h : ∀ q ∈ ps, PairOk q) : ∀ q ∈ cutN nm ps, PairOk q := fun q hq => h q ((List.mem_filter.mp hq).1)
theorem ok_add {nm : Str} {v : Value} {ps : List (Str × Value)} (h : ∀ q ∈ ps, PairOk q) (hp : PairOk (nm, v)) : ∀ q ∈ ps ++ [(nm, v)], PairOk q := fun q hq => by
  rcases List.mem_append.mp hq with hq | hq
  · exact h q hq
  · rw [List.mem_singleton.mp hq]
    exact hp
theorem cutN_le {nm : Str} {ps : List (Str × Value)} : (cutN nm ps).length ≤ ps.length := List.length_filter_le _ _
theorem add_len {q : Str × Value} {ps : List (Str × Value)} : (ps ++ [q]).length = ps.length + 1 := by rw [List.length_append]; rfl
/-- what a deed leaves: the pairs are ours, one more at most -/
def Grown (ps ps' : List (Str × Value)) : Prop := (∀ q ∈ ps', PairOk q) ∧ ps'.length ≤ ps.length + 1
section
variable {sg nm : Str} {place value extra : Int} {v pv nv : Value} {t : Tok} {ps ps' : List (Str × Value)} {a : Str}
theorem due_set (hs : SignOk sg) (hn : NmAt sg place nm) (ht : TextAt sg value v) (hok : ∀ q ∈ ps, PairOk q) (h : OutSet nm t v ps ps' a) : Due0 (faultP false place) (faultT sg value) (whichP place) (rowsL ps) (rowsL ps') a ∧ Grown ps ps' := by
  have hv := ht.vok hs
  obtain ⟨e1, -, -⟩ := ht.same
  rcases hn.info hs with ⟨hc, hp, -, -⟩ | ⟨hc, h6, h7, h4, hw⟩
  · have hf := faultP_bad hp
    rcases h with ⟨-, rfl, rfl⟩ | ⟨h0, -⟩
    · exact ⟨.inl ⟨by rw [hf]; exact vE_ne, rfl, hf.symm⟩, hok, by omega⟩
    · rw [hc] at h0; cases h0
  · have hf := faultP_good (b := false) h6 h7
    rw [← hw, ← e1]
    rcases h with ⟨h0, -⟩ | ⟨-, ⟨hg, rfl, rfl⟩ | ⟨hg, rfl, rfl⟩ | ⟨hg, rfl, rfl⟩⟩
    · rw [hc] at h0; cases h0
    · refine ⟨.inr (.inr ⟨hf, fV_good hg, ?_, rfl⟩), ok_add (ok_cut hok) ⟨hv.big, .inl ⟨h4, hc⟩⟩, by rw [add_len]; have := cutN_le (nm := nm) (ps := ps); omega⟩
      rw [rows_cut h4, rows_add (mark_good hg)]
    · exact ⟨.inr (.inl ⟨hf, by rw [fV_bad hg]; exact vE_ne, (rows_cut h4).symm, (fV_bad hg).symm⟩), ok_cut hok, by have := cutN_le (nm := nm) (ps := ps); omega⟩
    · exact ⟨.inr (.inl ⟨hf, by rw [fV_badA hg]; exact aE_ne _, (rows_cut h4).symm, (fV_badA hg).symm⟩), ok_cut hok, by have := cutN_le (nm := nm) (ps := ps); omega⟩
theorem due_del (hs : SignOk sg) (hn : NmAt sg place nm) (hok : ∀ q ∈ ps, PairOk q) (h : OutDel nm ps ps' a) : Due1 (faultP false place) (whichP place) (rowsL ps) (rowsL ps') a ∧ Grown ps ps' := by
  rcases hn.info hs with ⟨hc, hp, -, -⟩ | ⟨hc, h6, h7, h4, hw⟩
  · have hf := faultP_bad hp
    rcases h with ⟨-, rfl, rfl⟩ | ⟨h0, -⟩
    · exact ⟨.inl ⟨by rw [hf]; exact vE_ne, rfl, hf.symm⟩, hok, by omega⟩
    · rw [hc] at h0; cases h0
  · rw [← hw]
    rcases h with ⟨h0, -⟩ | ⟨-, rfl, rfl⟩
    · rw [hc] at h0; cases h0
    · exact ⟨.inr ⟨faultP_good h6 h7, (rows_cut h4).symm, rfl⟩, ok_cut hok, by have := cutN_le (nm := nm) (ps := ps); omega⟩
theorem due_def (hs : SignOk sg) (hn : NmAt sg place nm) (ht : TextAt sg value v) (hok : ∀ q ∈ ps, PairOk q) (h : OutDef nm v ps ps' a) : Due2 (faultP false place) (faultT sg value) (whichP place) (rowsL ps) (rowsL ps') a ∧ Grown ps ps' := by
  have hv := ht.vok hs
  obtain ⟨e1, -, -⟩ := ht.same
  rcases hn.info hs with ⟨hc, hp, -, -⟩ | ⟨hc, h6, h7, h4, hw⟩
  · have hf := faultP_bad hp
    rcases h with ⟨-, rfl, rfl⟩ | ⟨h0, -⟩
    · exact ⟨.inl ⟨by rw [hf]; exact vE_ne, rfl, hf.symm⟩, hok, by omega⟩
    · rw [hc] at h0; cases h0
  · have hf := faultP_good (b := false) h6 h7
    have hg := getv_row h4 (ps := ps) fun q hq => (hok q hq).1
    rw [← first_any] at hg
    have hx : firstX ((rowsL ps).getD (clsN nm) default) = ([Str.ofString "x", Str.ofString "o"].any (· == Txt.slice (ofL (rowN ps (clsN nm))) none (some 1))) := by rw [rowsL_get ps (clsN_le nm)]; rfl
    rw [← hx] at hg
    rw [← hw, ← e1]
    rcases h with ⟨h0, -⟩ | ⟨-, ⟨hne, rfl, rfl⟩ | ⟨hno, hV⟩⟩
    · rw [hc] at h0; cases h0
    · exact ⟨.inr (.inl ⟨hf, hg.mp hne, rfl, rfl⟩), hok, by omega⟩
    · have hF : firstX ((rowsL ps).getD (clsN nm) default) = false := by
        cases hb : firstX ((rowsL ps).getD (clsN nm) default) with
        | false => rfl
        | true => exact absurd hno (hg.mpr hb)
      rcases hV with ⟨hgd, rfl, rfl⟩ | ⟨hgd, rfl, rfl⟩ | ⟨hgd, rfl, rfl⟩
      · exact ⟨.inr (.inr (.inr ⟨hf, hF, fV_good hgd, (rows_add (mark_good hgd)).symm, rfl⟩)), ok_add hok ⟨hv.big, .inl ⟨h4, hc⟩⟩, by rw [add_len]; omega⟩
      · exact ⟨.inr (.inr (.inl ⟨hf, hF, by rw [fV_bad hgd]; exact vE_ne, rfl, (fV_bad hgd).symm⟩)), hok, by omega⟩
      · exact ⟨.inr (.inr (.inl ⟨hf, hF, by rw [fV_badA hgd]; exact aE_ne _, rfl, (fV_badA hgd).symm⟩)), hok, by omega⟩
theorem due_nm (hs : SignOk sg) (hn : NvAt sg true place nv) (hok : ∀ q ∈ ps, PairOk q) (h : OutN nv ps ps' a) : DueN (faultP true place) (whichP place) (rowsL ps) (rowsL ps') a ∧ Grown ps ps' := by
  rcases hn with ⟨nm, tn, rfl, hn, h7⟩ | ⟨-, rfl, tn, rfl⟩
  · have h7 := h7 rfl
    rcases hn.info hs with ⟨hc, hp, -, -⟩ | ⟨hc, h6, h7', h4, hw⟩
    · have h6 : place = 6 := by omega
      subst h6
      rcases h with ⟨-, rfl, rfl⟩ | ⟨hb, -⟩ | ⟨nm', tn', u, tu, e, hc', -⟩
      · exact ⟨.inl ⟨vE_ne, rfl, rfl⟩, hok, by omega⟩
      · rcases hb with ⟨t, e⟩ | e <;> cases e
      · cases e
        rw [hc] at hc'; cases hc'
    · rw [← hw]
      rcases h with ⟨⟨s, t, e, hb⟩, -⟩ | ⟨hb, -⟩ | ⟨nm', tn', u, tu, e, hc', fu, rfl, rfl⟩
      · cases e
        rw [hc] at hb; cases hb
      · rcases hb with ⟨t, e⟩ | e <;> cases e
      · cases e
        have hgu : goodV isCtlV (.str u tu) := ⟨u, tu, rfl, fu.1⟩
        exact ⟨.inr ⟨faultP_good h6 h7', (rows_add (mark_good hgu)).symm, rfl⟩, ok_add hok ⟨.inl ⟨u, tu, rfl, fu.2⟩, .inl ⟨h4, hc⟩⟩, by rw [add_len]; omega⟩
  · rcases h with ⟨⟨s, t, e, hb⟩, -⟩ | ⟨hb, rfl, rfl⟩ | ⟨nm', tn', u, tu, e, hc', fu, rfl, rfl⟩
    · cases e
    · exact ⟨.inl ⟨aE_ne _, rfl, rfl⟩, hok, by omega⟩
    · cases e
theorem due_val (ht : TextAt sg value v) {P : Prop} : (badV isCtlV v ∧ P → value ≠ 6 ∧ faultT sg value = vE) ∧ (badA v ∧ v ≠ .none → value ≠ 6 ∧ faultT sg value = aE v) ∧ (goodV isCtlV v ∨ v = .none → value = 6 ∨ faultT sg value = Str.ofString "") := by
  obtain ⟨e1, -, e6⟩ := ht.same
  rw [← e1, ne_eq, ← e6]
  refine ⟨fun h => ⟨?_, fV_bad h.1⟩, fun h => ⟨h.2, fV_badA h.1⟩, fun h => h.elim (fun h => .inr (fV_good h)) .inl⟩
  obtain ⟨s, t, e, -⟩ := h.1
  rw [e]
  exact fun h => by cases h
theorem due_add3 (hs : SignOk sg) (hn : NvAt sg true place nv) (ht : TextAt sg value v) (hok : ∀ q ∈ ps, PairOk q) (h : OutAdd v .none nv ps ps' a) : Due3 (faultP true place) (faultT sg value) value (whichP place) (rowsL ps) (rowsL ps') a ∧ Grown ps ps' := by
  obtain ⟨d1, d2, d3⟩ := due_val ht (P := True)
  rcases h with ⟨hb, rfl, rfl⟩ | ⟨hb, hne, rfl, rfl⟩ | ⟨hg, hP⟩
  · obtain ⟨x, y⟩ := d1 ⟨hb, trivial⟩
    exact ⟨.inl ⟨x, by rw [y]; exact vE_ne, rfl, y.symm⟩, hok, by omega⟩
  · obtain ⟨x, y⟩ := d2 ⟨hb, hne⟩
    exact ⟨.inl ⟨x, by rw [y]; exact aE_ne _, rfl, y.symm⟩, hok, by omega⟩
  · rcases hP with ⟨⟨s, t, e, -⟩, -⟩ | ⟨-, hne, -⟩ | ⟨-, hN⟩
    · cases e
    · exact absurd rfl hne
    · obtain ⟨x, y⟩ := due_nm hs hn hok hN
      exact ⟨.inr ⟨d3 hg, x⟩, y⟩
theorem due_add4 (hs : SignOk sg) (hn : NvAt sg true place nv) (ht : TextAt sg value v) (he : TextAt sg extra pv) (hok : ∀ q ∈ ps, PairOk q) (h : OutAdd v pv nv ps ps' a) : Due4 (faultP true place) (faultT sg value) (faultT sg extra) value extra (whichP place) (rowsL ps) (rowsL ps') a ∧ Grown ps ps' := by
  obtain ⟨d1, d2, d3⟩ := due_val ht (P := True)
  obtain ⟨c1, c2, c3⟩ := due_val he (P := True)
  rcases h with ⟨hb, rfl, rfl⟩ | ⟨hb, hne, rfl, rfl⟩ | ⟨hg, hP⟩
  · obtain ⟨x, y⟩ := d1 ⟨hb, trivial⟩
    exact ⟨.inl ⟨x, by rw [y]; exact vE_ne, rfl, y.symm⟩, hok, by omega⟩
  · obtain ⟨x, y⟩ := d2 ⟨hb, hne⟩
    exact ⟨.inl ⟨x, by rw [y]; exact aE_ne _, rfl, y.symm⟩, hok, by omega⟩
  · rcases hP with ⟨hb, rfl, rfl⟩ | ⟨hb, hne, rfl, rfl⟩ | ⟨hg2, hN⟩
    · obtain ⟨x, y⟩ := c1 ⟨hb, trivial⟩
      exact ⟨.inr ⟨d3 hg, .inl ⟨x, by rw [y]; exact vE_ne, rfl, y.symm⟩⟩, hok, by omega⟩
    · obtain ⟨x, y⟩ := c2 ⟨hb, hne⟩
      exact ⟨.inr ⟨d3 hg, .inl ⟨x, by rw [y]; exact aE_ne _, rfl, y.symm⟩⟩, hok, by omega⟩
    · obtain ⟨x, y⟩ := due_nm hs hn hok hN
      exact ⟨.inr ⟨d3 hg, .inr ⟨c3 hg2, x⟩⟩, y⟩
/-- a pair laid from outside -/
theorem due_out (hs : SignOk sg) (hn : NmAt sg place nm) (ht : TextAt sg value v) (hok : ∀ q ∈ ps, PairOk q) : rowsL (ps ++ [(nm, v)]) = (rowsL ps).set (whichP place) ((rowsL ps).getD (whichP place) default ++ ofL [markT sg value]) ∧ Grown ps (ps ++ [(nm, v)]) := by
  obtain ⟨-, e2, -⟩ := ht.same
  have hv := ht.vok hs
  rcases hn.info hs with ⟨hc, -, h4, hw⟩ | ⟨hc, -, -, h4, hw⟩
  · rw [hw, ← h4, ← e2]
    exact ⟨rows_mark.symm, ok_add hok ⟨hv.big, .inr ⟨h4, hc⟩⟩, by rw [add_len]; omega⟩
  · rw [← hw, ← e2]
    exact ⟨rows_mark.symm, ok_add hok ⟨hv.big, .inl ⟨h4, hc⟩⟩, by rw [add_len]; omega⟩
theorem due_turn (hp : place < 4) (hok : ∀ q ∈ ps, PairOk q) : rowsL ps.reverse = (rowsL ps).map (turnedS place) ∧ Grown ps ps.reverse := by
  refine ⟨?_, fun q hq => hok q (List.mem_reverse.mp hq), by rw [List.length_reverse]; omega⟩
  unfold rowsL
  simp only [List.map_cons, List.map_nil, turnedS_ofL, turned, if_pos hp, rowN_rev]
theorem due_void (hp : 4 ≤ place) : rowsL [] = (rowsL ps).map (turnedS place) ∧ Grown ps [] := by
  refine ⟨?_, (fun q hq => nomatch hq), Nat.zero_le _⟩
  unfold rowsL
  simp only [List.map_cons, List.map_nil, turnedS_ofL, turned, if_neg (Int.not_lt.mpr hp)]
  rfl
theorem join_rows : Txt.join (Str.ofString "") (rowsL ps) = ofL (rowN ps 0 ++ rowN ps 1 ++ rowN ps 2 ++ rowN ps 3 ++ rowN ps 4) := ofL_join _ _ _ _ _
theorem join_rows_len : (Txt.join (Str.ofString "") (rowsL ps)).length = ps.length := by
  rw [join_rows, ofL_len, ← rowN_sum ps]
  simp only [List.length_append]
theorem good_copy (hok : ∀ q ∈ ps, PairOk q) : (∀ q ∈ ps, goodPr q) ↔ ((rowsL ps).getD 4 default = Str.ofString "" ∧ Txt.stripChars (Txt.join (Str.ofString "") (rowsL ps)) (Str.ofString "x") = Str.ofString "") := by
  rw [good_rows hok, join_rows, ofL_strip, rowsL_get ps (by decide : 4 < 5), ofL_nil]
  refine and_congr_left fun _ => ⟨fun h => by rw [h], fun h => ofL_inj h⟩
theorem copy_good (hok : ∀ q ∈ ps, PairOk q) (hg : ∀ q ∈ ps, goodPr q) : copyAns (rowsL ps) = .two ps.length ((cutN (Str.ofString "A") ps).length + 1) := by
  unfold copyAns
  rw [if_pos ((good_copy hok).mp hg), join_rows_len, rowsL_get ps (by decide : 0 < 5), ofL_len]
  have h4 : clsN (Str.ofString "A") < 4 := by decide +kernel
  have e0 : clsN (Str.ofString "A") = 0 := by decide +kernel
  have := cutN_cnt (nm := Str.ofString "A") ps h4
  rw [e0] at this
  congr 1
  omega
theorem copy_bad (hok : ∀ q ∈ ps, PairOk q) (hg : ¬ ∀ q ∈ ps, goodPr q) : copyAns (rowsL ps) = .txt (Str.ofString "refused") := by
  unfold copyAns
  rw [if_neg fun h => hg ((good_copy hok).mpr h)]
end
end
section
theorem kw51 : True := by
  w_top off
  trivial
/-- the four tables over three lists -/
structure Tb where
  X : Nat → Addr
  Lh : Nat → Addr
  Dd : Nat → Addr
  TL : Nat → Tok
def Tb.Apart (T : Tb) : Prop := ∀ i j, i < 3 → j < 3 → i ≠ j → T.Lh i ≠ T.Lh j
def Homes (w : World) (n : List (Addr × Obj)) (T : Tb) (ps : Nat → List (Str × Value)) : Prop := ∀ t < 4, ∃ its k, Box w n (T.X t) (T.Lh (homeOf t)) (T.Dd t) (T.TL t) its k (ps (homeOf t))
theorem homeOf_lt {t : Nat} (h : t < 4) : homeOf t < 3 := by
  have : t = 0 ∨ t = 1 ∨ t = 2 ∨ t = 3 := nlt4 (by first | with_reducible assumption | omega)
  rcases this with rfl | rfl | rfl | rfl <;> decide
theorem Homes.mono {w : World} {n n' : List (Addr × Obj)} {T : Tb} {ps : Nat → List (Str × Value)} (H : Homes w n T ps) (k : ∀ q ∈ n, q ∈ n') : Homes w n' T ps := fun t h => let ⟨its, c, B⟩ := H t h; ⟨its, c, B.mono k⟩
theorem Homes.noIter {w : World} {n n' : List (Addr × Obj)} {T : Tb} {ps : Nat → List (Str × Value)} (H : Homes w n T ps) (k : ∀ p ∈ n, isIter p.2 = false → p ∈ n') : Homes w n' T ps := fun t h => let ⟨its, c, B⟩ := H t h; ⟨its, c, B.noIter k⟩
theorem Homes.step {w : World} {h₀ h : Heap} {L : Addr} {n n' : List (Addr × Obj)} {T : Tb} {ps : Nat → List (Str × Value)} {t : Nat} {its : Array Value} {k : Nat} {ps' : List (Str × Value)} (N : News h₀ L h n) (H : Homes w n T ps) (D : T.Apart) (ht : t < 4) (K : Kept (T.Lh (homeOf t)) n n')
    (B : Box w n' (T.X t) (T.Lh (homeOf t)) (T.Dd t) (T.TL t) its k ps') : Homes w n' T (updf ps (homeOf t) ps') := fun u hu => by
  obtain ⟨ia, ka, Ba⟩ := H t ht
  obtain ⟨iu, ku, Bu⟩ := H u hu
  by_cases e : homeOf u = homeOf t
  · have hdu := Bu.hd
    rw [e] at hdu
    rw [e, updf_self]
    refine ⟨its, k, K _ Bu.hx (news_ne N Bu.hx Ba.hl ?_), K _ hdu (news_ne N hdu Ba.hl ?_), B.hl, B.P, B.small⟩
    · show Value.ref 184 ≠ Value.type "list"; decide
    · show Value.type "dict" ≠ Value.type "list"; decide
  · rw [updf_ne _ _ e]
    exact ⟨iu, ku, Bu.kept N Ba.hl (D _ _ (homeOf_lt hu) (homeOf_lt ht) e) K⟩
def KeptL (T : Tb) (n n' : List (Addr × Obj)) : Prop := ∀ p ∈ n, (∀ i < 3, p.1 ≠ T.Lh i) → p ∈ n'
theorem keptL_of {T : Tb} {i : Nat} {n n' : List (Addr × Obj)} (hi : i < 3) (K : Kept (T.Lh i) n n') : KeptL T n n' := fun p hp h => K p hp (h i hi)
/-- the rows: a list of three lists of texts -/
structure RowsAt (n : List (Addr × Obj)) (r : Addr) (rk : Nat) (ra : Nat → Addr) (Rs : Nat → List Str) : Prop where
  hr : (r, listOf #[.ref (ra 0), .ref (ra 1), .ref (ra 2)] rk) ∈ n
  row : ∀ i < 3, RowAt n (ra i) (Rs i)
  ap : ∀ i < 3, r ≠ ra i
  ap2 : ∀ i j, i < 3 → j < 3 → i ≠ j → ra i ≠ ra j
theorem RowsAt.mono {n n' : List (Addr × Obj)} {r : Addr} {rk : Nat} {ra : Nat → Addr} {Rs : Nat → List Str} (R : RowsAt n r rk ra Rs) (k : ∀ q ∈ n, q ∈ n') : RowsAt n' r rk ra Rs := ⟨k _ R.hr, fun i hi => (R.row i hi).mono k, R.ap, R.ap2⟩
def KeptR (r : Addr) (ra : Nat → Addr) (n n' : List (Addr × Obj)) : Prop := ∀ p ∈ n, p.1 ≠ r → (∀ i < 3, p.1 ≠ ra i) → p ∈ n'
theorem RowsAt.step {n n' : List (Addr × Obj)} {r : Addr} {rk : Nat} {ra : Nat → Addr} {Rs : Nat → List Str} {i : Nat} {R' : List Str} (R : RowsAt n r rk ra Rs) (hi : i < 3) (K : Kept (ra i) n n') (h : RowAt n' (ra i) R') : RowsAt n' r rk ra (updf Rs i R') := by
  refine ⟨K _ R.hr (R.ap i hi), fun j hj => ?_, R.ap, R.ap2⟩
  by_cases e : j = i
  · subst e
    rw [updf_self]
    exact h
  · rw [updf_ne _ _ e]
    exact (R.row j hj).kept K (R.ap2 j i hj hi e)
theorem keptR_of {r : Addr} {ra : Nat → Addr} {n n' : List (Addr × Obj)} {i : Nat} (hi : i < 3) (K : Kept (ra i) n n') : KeptR r ra n n' := fun p hp _ h => K p hp (h i hi)
theorem rowsL_bound {ps : List (Str × Value)} {B : Nat} (h : ps.length ≤ B) {c : Nat} (hc : c < 5) : ((rowsL ps).getD c default).length ≤ B := by
  rw [rowsL_get ps hc, ofL_len]
  exact Nat.le_trans (rowN_le ps c) h
theorem rowsL_total (ps : List (Str × Value)) : ((rowsL ps).map (·.length)).sum = ps.length := by
  unfold rowsL
  simp only [List.map_cons, List.map_nil, List.sum_cons, List.sum_nil, ofL_len]
  have := rowN_sum ps
  omega
theorem set_bound {R : List Str} {c : Nat} (h : (R.getD c default).length ≤ 2000) : ((R.set c (Str.ofString "")).getD c default).length ≤ 2000 := by
  rw [List.getD_eq_getElem?_getD] at *
  rw [List.getElem?_set]
  simp only [if_true]
  split
  · exact (by decide +kernel : (Str.ofString "").length ≤ 2000)
  · exact (by decide +kernel : (default : Str).length ≤ 2000)
end
section
theorem kw52 : True := by
  w_top off
  trivial
def Off (r : Addr) (ra : Nat → Addr) (T : Tb) (tl dl a : Addr) : Prop := a ≠ tl ∧ a ≠ dl ∧ a ≠ r ∧ (∀ i < 3, a ≠ ra i) ∧ ∀ i < 3, a ≠ T.Lh i
/-- what the loop of the law knows -/
structure LS (w : World) (n : List (Addr × Obj)) (T : Tb) (ps : Nat → List (Str × Value)) (r : Addr) (rk : Nat) (ra : Nat → Addr) (Rs : Nat → List Str) (TT tl dl : Addr) (ts ds : List Value) (fz : List (Addr × Obj)) : Prop where
  H : Homes w n T ps
  D : T.Apart
  R : RowsAt n r rk ra Rs
  tt : ∃ k, (TT, listOf #[.ref (T.X 0), .ref (T.X 1), .ref (T.X 2), .ref (T.X 3)] k) ∈ fz
  to : ∃ k, (tl, listOf ts.toArray k) ∈ n
  du : ∃ k, (dl, listOf ds.toArray k) ∈ n
  fr : ∀ p ∈ fz, p ∈ n
  off : ∀ p ∈ fz, Off r ra T tl dl p.1
  td : tl ≠ dl
  tr : tl ≠ r ∧ dl ≠ r
  ta : ∀ i < 3, tl ≠ ra i ∧ dl ≠ ra i
  tL : ∀ i < 3, tl ≠ T.Lh i ∧ dl ≠ T.Lh i ∧ r ≠ T.Lh i
  aL : ∀ i j, i < 3 → j < 3 → ra i ≠ T.Lh j
section
variable {w : World} {h₀ h : Heap} {L : Addr} {n n' : List (Addr × Obj)} {T : Tb} {ps ps' : Nat → List (Str × Value)} {r : Addr} {rk rk' : Nat} {ra ra' : Nat → Addr} {Rs Rs' : Nat → List Str} {TT tl dl : Addr} {ts ds : List Value} {fz : List (Addr × Obj)}
theorem Homes.list (H : Homes w n T ps) {i : Nat} (hi : i < 3) : ∃ its k, (T.Lh i, listOf its k) ∈ n := by
  have : i = 0 ∨ i = 1 ∨ i = 2 := nlt3 (by first | with_reducible assumption | omega)
  rcases this with rfl | rfl | rfl
  · obtain ⟨its, k, B⟩ := H 0 (by decide); exact ⟨its, k, B.hl⟩
  · obtain ⟨its, k, B⟩ := H 2 (by decide); exact ⟨its, k, B.hl⟩
  · obtain ⟨its, k, B⟩ := H 3 (by decide); exact ⟨its, k, B.hl⟩
theorem Homes.keptOf (N : News h₀ L h n) (H : Homes w n T ps) (hk : ∀ p ∈ n, (∀ i < 3, p.1 = T.Lh i → p ∈ n') ∧ (p.2.cls ≠ .type "list" → p ∈ n')) : Homes w n' T ps := fun t ht => by
  obtain ⟨its, k, B⟩ := H t ht
  refine ⟨its, k, (hk _ B.hx).2 ?_, (hk _ B.hd).2 ?_, (hk _ B.hl).1 _ (homeOf_lt ht) rfl, Paired.imp B.P fun v q ⟨t', tk, e, hm, hs⟩ => ⟨t', tk, e, (hk _ hm).2 ?_, hs⟩, B.small⟩
  · show Value.ref 184 ≠ Value.type "list"; decide
  · show Value.type "dict" ≠ Value.type "list"; decide
  · show Value.type "tuple" ≠ Value.type "list"; decide
theorem Homes.keptT {t : Addr} {its : Array Value} {k : Nat} (N : News h₀ L h n) (H : Homes w n T ps) (ht : (t, listOf its k) ∈ n) (hne : ∀ i < 3, t ≠ T.Lh i) (K : Kept t n n') : Homes w n' T ps :=
  H.keptOf N fun p hp => ⟨fun i hi e => K p hp (by rw [e]; exact (hne i hi).symm), fun hc => K p hp (news_ne (a := p.1) (o₁ := p.2) N hp ht hc)⟩
theorem Homes.keptR (N : News h₀ L h n) (H : Homes w n T ps) (R : RowsAt n r rk ra Rs) (hr : ∀ i < 3, r ≠ T.Lh i) (ha : ∀ i j, i < 3 → j < 3 → ra i ≠ T.Lh j) (K : KeptR r ra n n') : Homes w n' T ps :=
  H.keptOf N fun p hp => ⟨fun i hi e => K p hp (by rw [e]; exact (hr i hi).symm) fun j hj => (by rw [e]; exact (ha j i hj hi).symm), fun hc => K p hp (news_ne (a := p.1) (o₁ := p.2) N hp R.hr hc) fun j hj => by
    obtain ⟨-, its, k, hm, -⟩ := R.row j hj
    exact news_ne (a := p.1) (o₁ := p.2) N hp hm hc⟩
theorem LS.grow (S : LS w n T ps r rk ra Rs TT tl dl ts ds fz) (k : ∀ q ∈ n, q ∈ n') : LS w n' T ps r rk ra Rs TT tl dl ts ds fz :=
  ⟨S.H.mono k, S.D, S.R.mono k, S.tt, S.to.imp fun _ h => k _ h, S.du.imp fun _ h => k _ h, fun p hp => k p (S.fr p hp), S.off, S.td, S.tr, S.ta, S.tL, S.aL⟩
theorem LS.noIter (S : LS w n T ps r rk ra Rs TT tl dl ts ds fz) (k : ∀ p ∈ n, isIter p.2 = false → p ∈ n') (kf : ∀ p ∈ fz, p ∈ n') : LS w n' T ps r rk ra Rs TT tl dl ts ds fz := by
  refine ⟨S.H.noIter k, S.D, ⟨k _ S.R.hr isIter_list, fun i hi => ?_, S.R.ap, S.R.ap2⟩, S.tt, S.to.imp fun _ h => k _ h isIter_list, S.du.imp fun _ h => k _ h isIter_list, kf, S.off, S.td, S.tr, S.ta, S.tL, S.aL⟩
  obtain ⟨h5, its, c, hm, hi'⟩ := S.R.row i hi
  exact ⟨h5, its, c, k _ hm isIter_list, hi'⟩
theorem LS.deed (S : LS w n T ps r rk ra Rs TT tl dl ts ds fz) (K : KeptL T n n') (H : Homes w n' T ps') : LS w n' T ps' r rk ra Rs TT tl dl ts ds fz := by
  refine ⟨H, S.D, ⟨K _ S.R.hr fun i hi => (S.tL i hi).2.2, fun i hi => ?_, S.R.ap, S.R.ap2⟩, S.tt, S.to.imp fun _ h => K _ h fun i hi => (S.tL i hi).1, S.du.imp fun _ h => K _ h fun i hi => (S.tL i hi).2.1, fun p hp => K p (S.fr p hp) (S.off p hp).2.2.2.2, S.off, S.td, S.tr, S.ta, S.tL, S.aL⟩
  obtain ⟨h5, its, c, hm, hi'⟩ := S.R.row i hi
  exact ⟨h5, its, c, K _ hm fun j hj => S.aL i j hi hj, hi'⟩
theorem LS.fresh (S : LS w n T ps r rk ra Rs TT tl dl ts ds fz) {a : Addr} (hf : ∀ q ∈ n, q.1 ≠ a) : Off r ra T tl dl a := by
  obtain ⟨k1, h1⟩ := S.to
  obtain ⟨k2, h2⟩ := S.du
  refine ⟨(hf _ h1).symm, (hf _ h2).symm, (hf _ S.R.hr).symm, fun i hi => ?_, fun i hi => ?_⟩
  · obtain ⟨-, its, c, hm, -⟩ := S.R.row i hi
    exact (hf _ hm).symm
  · obtain ⟨its, k, hm⟩ := S.H.list hi
    exact (hf _ hm).symm
theorem LS.due (N : News h₀ L h n) (S : LS w n T ps r rk ra Rs TT tl dl ts ds fz) (K : KeptR r ra n n') (R : RowsAt n' r rk' ra' Rs') (hf : ∀ i < 3, ra' i = ra i ∨ ∀ q ∈ n, q.1 ≠ ra' i) : LS w n' T ps r rk' ra' Rs' TT tl dl ts ds fz := by
  have key : ∀ i < 3, ∀ a, a ≠ ra i → (∃ o, (a, o) ∈ n) → a ≠ ra' i := fun i hi a h1 ⟨o, h2⟩ => by
    rcases hf i hi with e | e
    · rw [e]; exact h1
    · exact e _ h2
  refine ⟨S.H.keptR N S.R (fun i hi => (S.tL i hi).2.2) S.aL K, S.D, R, S.tt, ?_, ?_, fun p hp => ?_, fun p hp => ?_, S.td, S.tr, fun i hi => ?_, S.tL, fun i j hi hj => ?_⟩
  · exact S.to.imp fun _ h => K _ h S.tr.1 fun i hi => (S.ta i hi).1
  · exact S.du.imp fun _ h => K _ h S.tr.2 fun i hi => (S.ta i hi).2
  · exact K p (S.fr p hp) (S.off p hp).2.2.1 (S.off p hp).2.2.2.1
  · obtain ⟨a, b, c, d, e⟩ := S.off p hp
    exact ⟨a, b, c, fun i hi => key i hi _ (d i hi) ⟨p.2, S.fr p hp⟩, e⟩
  · obtain ⟨k1, h1⟩ := S.to
    obtain ⟨k2, h2⟩ := S.du
    exact ⟨key i hi _ (S.ta i hi).1 ⟨_, h1⟩, key i hi _ (S.ta i hi).2 ⟨_, h2⟩⟩
  · obtain ⟨its, k, hm⟩ := S.H.list hj
    exact (key i hi _ (S.aL i j hi hj).symm ⟨_, hm⟩).symm
theorem LS.told {v : Value} {k : Nat} (N : News h₀ L h n) (S : LS w n T ps r rk ra Rs TT tl dl ts ds fz) (K : Kept tl n n') (hm : (tl, listOf (ts ++ [v]).toArray k) ∈ n') : LS w n' T ps r rk ra Rs TT tl dl (ts ++ [v]) ds fz := by
  obtain ⟨k1, h1⟩ := S.to
  refine ⟨S.H.keptT N h1 (fun i hi => (S.tL i hi).1) K, S.D, ⟨K _ S.R.hr S.tr.1.symm, fun i hi => (S.R.row i hi).kept K (S.ta i hi).1.symm, S.R.ap, S.R.ap2⟩, S.tt, ⟨_, hm⟩, S.du.imp fun _ h => K _ h S.td.symm, fun p hp => K p (S.fr p hp) (S.off p hp).1, S.off, S.td, S.tr, S.ta, S.tL, S.aL⟩
theorem LS.dued {v : Value} {k : Nat} (N : News h₀ L h n) (S : LS w n T ps r rk ra Rs TT tl dl ts ds fz) (K : Kept dl n n') (hm : (dl, listOf (ds ++ [v]).toArray k) ∈ n') : LS w n' T ps r rk ra Rs TT tl dl ts (ds ++ [v]) fz := by
  obtain ⟨k2, h2⟩ := S.du
  refine ⟨S.H.keptT N h2 (fun i hi => (S.tL i hi).2.1) K, S.D, ⟨K _ S.R.hr S.tr.2.symm, fun i hi => (S.R.row i hi).kept K (S.ta i hi).2.symm, S.R.ap, S.R.ap2⟩, S.tt, S.to.imp fun _ h => K _ h S.td, ⟨_, hm⟩, fun p hp => K p (S.fr p hp) (S.off p hp).2.1, S.off, S.td, S.tr, S.ta, S.tL, S.aL⟩
theorem LS.add {p : Addr × Obj} (S : LS w n T ps r rk ra Rs TT tl dl ts ds fz) (hp : p ∈ n) (ho : Off r ra T tl dl p.1) : LS w n T ps r rk ra Rs TT tl dl ts ds (p :: fz) := by
  refine ⟨S.H, S.D, S.R, S.tt.imp fun _ h => .tail _ h, S.to, S.du, fun q hq => ?_, fun q hq => ?_, S.td, S.tr, S.ta, S.tL, S.aL⟩
  · rcases List.mem_cons.mp hq with rfl | hq
    · exact hp
    · exact S.fr q hq
  · rcases List.mem_cons.mp hq with rfl | hq
    · exact ho
    · exact S.off q hq
/-- the frozen part without what is not to be kept -/
theorem LS.less {fz2 : List (Addr × Obj)} (S : LS w n T ps r rk ra Rs TT tl dl ts ds fz) (k : ∀ p ∈ fz2, p ∈ fz) (kl : ∀ p ∈ fz, isIter p.2 = false → p ∈ fz2) : LS w n T ps r rk ra Rs TT tl dl ts ds fz2 :=
  ⟨S.H, S.D, S.R, S.tt.imp fun _ h => kl _ h isIter_list, S.to, S.du, fun p hp => S.fr p (k p hp), fun p hp => S.off p (k p hp), S.td, S.tr, S.ta, S.tL, S.aL⟩
/-- an entry of the frozen part stays -/
theorem LS.keptX {t : Addr} {its : Array Value} {k : Nat} (N : News h₀ L h n) (S : LS w n T ps r rk ra Rs TT tl dl ts ds fz) (ht : (t, listOf its k) ∈ n) (ho : Off r ra T tl dl t) (hfz : ∀ p ∈ fz, p.1 ≠ t) (K : Kept t n n') : LS w n' T ps r rk ra Rs TT tl dl ts ds fz := by
  obtain ⟨o1, o2, o3, o4, o5⟩ := ho
  exact ⟨S.H.keptT N ht o5 K, S.D, ⟨K _ S.R.hr o3.symm, fun i hi => (S.R.row i hi).kept K (o4 i hi).symm, S.R.ap, S.R.ap2⟩, S.tt, S.to.imp fun _ h => K _ h o1.symm, S.du.imp fun _ h => K _ h o2.symm, fun p hp => K p (S.fr p hp) (hfz p hp), S.off, S.td, S.tr, S.ta, S.tL, S.aL⟩
end
/-- an answer in the frozen part -/
def AnsIn (f : List (Addr × Obj)) : Ans → Value → Prop
  | .txt s, v => ∃ t, v = .str s t
  | .two a b, v => ∃ R k t1 t2, v = .ref R ∧ (R, listOf #[.int (a : Int) t1, .int (b : Int) t2] k) ∈ f
theorem AnsIn.mono {f f' : List (Addr × Obj)} (k : ∀ q ∈ f, q ∈ f') : ∀ {ans : Ans} {v : Value}, AnsIn f ans v → AnsIn f' ans v
  | .txt _, _, h => h
  | .two _ _, _, ⟨R, c, t1, t2, e, hm⟩ => ⟨R, c, t1, t2, e, k _ hm⟩
theorem AnsIn.alike {f : List (Addr × Obj)} : ∀ {ans : Ans} {v u : Value}, AnsIn f ans v → AnsIn f ans u → Alike f 2 v u
  | .txt _, _, _, ⟨_, e1⟩, ⟨_, e2⟩ => by subst e1; subst e2; exact Alike.str
  | .two _ _, _, _, ⟨_, _, _, _, e1, h1⟩, ⟨_, _, _, _, e2, h2⟩ => by
    subst e1; subst e2
    exact Alike.list h1 h2 (.cons Alike.int (.cons Alike.int .nil))
section
variable {w : World} {h₀ h : Heap} {L : Addr} {n n' : List (Addr × Obj)} {T : Tb} {ps ps' : Nat → List (Str × Value)} {r : Addr} {rk rk' : Nat} {ra ra' : Nat → Addr} {Rs Rs' : Nat → List Str} {TT tl dl : Addr} {ts ds : List Value} {fz : List (Addr × Obj)}
theorem ans_in {ans : Ans} {v : Value} (S0 : LS w n T ps r rk ra Rs TT tl dl ts ds fz) (S1 : LS w n' T ps' r rk' ra' Rs' TT tl dl ts ds fz) (N' : News h₀ L h n') (An : AnsIs n n' ans v) : ∃ fz', (∀ p ∈ fz, p ∈ fz') ∧ AnsIn fz' ans v ∧ LS w n' T ps' r rk' ra' Rs' TT tl dl ts ds fz' := by
  cases ans with
  | txt s => exact ⟨fz, fun _ h => h, An, S1⟩
  | two a b =>
    obtain ⟨R, k, t1, t2, rfl, hm, hf⟩ := An
    obtain ⟨o1, o2, o3, o4, o5⟩ := S0.fresh hf
    refine ⟨_ :: fz, fun _ h => .tail _ h, ⟨R, k, t1, t2, rfl, .head _⟩, S1.add hm ⟨o1, o2, o3, fun i hi e => ?_, o5⟩⟩
    obtain ⟨h5, its, c, hm2, hi2⟩ := S1.R.row i hi
    have e1 : h.get? R = some (listOf #[Value.int (a : Int) t1, .int (b : Int) t2] k) := (N' _ hm).1
    have e2 : h.get? (ra' i) = some (listOf its c) := (N' _ hm2).1
    have e : R = ra' i := e
    rw [e, e2] at e1
    have e3 := congrArg Obj.data (Option.some.inj e1)
    have e4 : its = #[Value.int (a : Int) t1, .int (b : Int) t2] := (Data.seq.inj e3).1
    have e5 := StrsAre.len_eq hi2
    rw [e4, h5] at e5
    cases e5
end
end
section
theorem kw53 : True := by
  w_top off
  trivial
def lawStmt : Stmt := pg.main.body.getLastD (.Pass default)
def lawBody : List Stmt := match lawStmt with
  | .FunctionDef _ _ b _ _ _ _ _ _ _ => b
  | _ => []
def lawScope : Scope := match lawStmt with
  | .FunctionDef _ _ _ _ _ _ sc _ _ _ => sc
  | _ => default
def loopBody : List Stmt := match lawBody.getD 11 (.Pass default) with
  | .For _ _ b _ _ => b
  | _ => []
def signOf (fg : Int) : Str := if fg = 32 then ⟨#[127]⟩ else ⟨#[fg.toNat]⟩
theorem signOf_ok {fg : Int} (h0 : 0 ≤ fg) (h1 : fg < 33) : SignOk (signOf fg) := by
  unfold signOf
  split
  · exact ⟨127, .inr rfl, rfl⟩
  · exact ⟨fg.toNat, .inl (by omega), rfl⟩
theorem homeI {t : Nat} (h : t < 4) : ([0, 0, 1, 2] : List Int).getD ((t : Int)).toNat 0 = (homeOf t : Int) := by
  have : t = 0 ∨ t = 1 ∨ t = 2 ∨ t = 3 := nlt4 (by first | with_reducible assumption | omega)
  rcases this with rfl | rfl | rfl | rfl <;> rfl
end
section
theorem kw54 : True := by
  w_top off
  trivial
theorem lens_sum {ps : List (Str × Value)} : ((rowsL ps).map fun x => ((x.length : Nat) : Int)).sum = (ps.length : Int) := by
  have := rowsL_total ps
  have key : ∀ l : List Str, (l.map fun x => ((x.length : Nat) : Int)).sum = (((l.map (·.length)).sum : Nat) : Int) := fun l => by
    induction l with
    | nil => rfl
    | cons a r ih => simp only [List.map_cons, List.sum_cons, ih]; omega
  rw [key, this]
end
section
theorem kw55 : True := by
  w_top off
  trivial
def showBody : List Stmt := match loopBody.getD 5 (.Pass default) with
  | .For _ _ b _ _ => b
  | _ => []
theorem iter_neL {h₀ h : Heap} {L a : Addr} {n : List (Addr × Obj)} {it : Addr × Obj} {its : Array Value} {k : Nat} (N : News h₀ L h n) (hit : isIter it.2 = true) (him : it ∈ n) (ha : (a, listOf its k) ∈ n) : it.1 ≠ a := fun e => by
  have e1 := (N _ him).1
  have e2 : h.get? a = some (listOf its k) := (N _ ha).1
  rw [e, e2] at e1
  rw [← Option.some.inj e1] at hit
  cases hit
/-- the word of the loop over the three lists that are shown -/
def ShowJ (w : World) (T : Tb) (ps : Nat → List (Str × Value)) (r : Addr) (rk : Nat) (ra : Nat → Addr) (Rs : Nat → List Str) (TT tl dl : Addr) (tls dls : List Value) (fz : List (Addr × Obj)) (N0 : Nat) (D : Nat → Addr) (M : Str → Option Value) : Nat → (Str → Option Value) → List (Addr × Obj) → Prop := fun i m' n' =>
  Agree [Str.ofString "shown"] M m' ∧ (∃ zs us cs, IntsAre zs cs ∧ IntsAre us cs ∧ cs.length = i ∧ LS w n' T ps r rk ra Rs TT tl dl (tls ++ zs) (dls ++ us) fz) ∧ ∀ j, i ≤ j → j < 3 → ∃ its k, (D j, listOf its k) ∈ n' ∧ its.size = N0
theorem ShowJ.mono {w : World} {T : Tb} {ps : Nat → List (Str × Value)} {r : Addr} {rk : Nat} {ra : Nat → Addr} {Rs : Nat → List Str} {TT tl dl : Addr} {tls dls : List Value} {fz : List (Addr × Obj)} {N0 : Nat} {D : Nat → Addr} {M : Str → Option Value} {n₀ : List (Addr × Obj)} (hf : ∀ p ∈ fz, p ∈ n₀) (i : Nat) (m : Str → Option Value) (n n' : List (Addr × Obj)) (I : Addr) (h1 : ∀ p ∈ n₀, p.1 ≠ I) (h2 : ∀ p ∈ n, isIter p.2 = false → p.1 ≠ I) (h3 : ShowJ w T ps r rk ra Rs TT tl dl tls dls fz N0 D M i m n) (h4 : ∀ p ∈ n, p.1 ≠ I → p ∈ n') : ShowJ w T ps r rk ra Rs TT tl dl tls dls fz N0 D M i m n' := by
  obtain ⟨hA, ⟨zs, us, cs, h5, h6, h7, X⟩, hD⟩ := h3
  refine ⟨hA, ⟨zs, us, cs, h5, h6, h7, X.noIter (fun p hp hi => h4 p hp (h2 p hp hi)) fun p hp => h4 p (X.fr p hp) (h1 p (hf p hp))⟩, fun j h8 h9 => ?_⟩
  obtain ⟨its, k, hm, hs⟩ := hD j h8 h9
  exact ⟨its, k, h4 _ hm (h2 _ hm isIter_list), hs⟩
theorem ints_snoc1 {zs : List Value} {cs : List Int} (h : IntsAre zs cs) (z : Int) (t : Tok) : IntsAre (zs ++ [.int z t]) (cs ++ [z]) := ints_snoc h z t
end
section
theorem kw56 : True := by
  w_top off
  trivial
theorem getD_set_ne {R : List Str} {c k : Nat} {y : Str} (h : c ≠ k) : (R.set c y).getD k default = R.getD k default := by
  rw [List.getD_eq_getElem?_getD, List.getD_eq_getElem?_getD, List.getElem?_set_ne h]
theorem getD_set_eq {R : List Str} {c : Nat} {y : Str} (h : c < R.length) : (R.set c y).getD c default = y := by
  rw [List.getD_eq_getElem?_getD, List.getElem?_set_self h]
  rfl
theorem faultP_which {big : Bool} {place : Int} (hp : 0 ≤ place ∧ place < 8) (h : faultP big place = Str.ofString "") : whichP place ≠ 4 := by
  have : place = 0 ∨ place = 1 ∨ place = 2 ∨ place = 3 ∨ place = 4 ∨ place = 5 ∨ place = 6 ∨ place = 7 := zlt8 (by first | with_reducible assumption | omega)
  rcases this with rfl | rfl | rfl | rfl | rfl | rfl | rfl | rfl
  · decide
  · decide
  · decide
  · decide
  · decide
  · decide
  · exact absurd h vE_ne
  · cases big
    · exact absurd h vE_ne
    · exact absurd h (aE_ne _)
theorem DueN.row4 {big : Bool} {place : Int} {R R' : List Str} {a : Str} (hp : 0 ≤ place ∧ place < 8) (h : DueN (faultP big place) (whichP place) R R' a) : R'.getD 4 default = R.getD 4 default := by
  rcases h with ⟨-, rfl, -⟩ | ⟨e, rfl, -⟩
  · rfl
  · exact getD_set_ne (faultP_which hp e)
theorem DueK.row4 {kind place value extra : Int} {sg : Str} {R R' : List Str} {a : Str} (hp : 0 ≤ place ∧ place < 8) (h : DueK kind place value extra sg R R' a) : R'.getD 4 default = R.getD 4 default := by
  rcases h with ⟨-, h⟩ | ⟨-, h⟩ | ⟨-, h⟩ | ⟨-, h⟩ | ⟨-, h⟩
  · rcases h with ⟨-, rfl, -⟩ | ⟨e, -, rfl, -⟩ | ⟨e, -, rfl, -⟩
    · rfl
    · exact getD_set_ne (faultP_which hp e)
    · rw [getD_set_ne (faultP_which hp e)]; exact getD_set_ne (faultP_which hp e)
  · rcases h with ⟨-, rfl, -⟩ | ⟨e, rfl, -⟩
    · rfl
    · exact getD_set_ne (faultP_which hp e)
  · rcases h with ⟨-, rfl, -⟩ | ⟨-, -, rfl, -⟩ | ⟨-, -, -, rfl, -⟩ | ⟨e, -, -, rfl, -⟩
    · rfl
    · rfl
    · rfl
    · exact getD_set_ne (faultP_which hp e)
  · rcases h with ⟨-, -, rfl, -⟩ | ⟨-, h⟩
    · rfl
    · exact h.row4 hp
  · rcases h with ⟨-, -, rfl, -⟩ | ⟨-, ⟨-, -, rfl, -⟩ | ⟨-, h⟩⟩
    · rfl
    · rfl
    · exact h.row4 hp
/-- only the first list ever has an odd name -/
theorem DueAll.row4 {kind place value extra : Int} {sg : Str} {home : Nat} {Rs Rs' : Nat → List Str} {ans : Ans} (hp : 0 ≤ place ∧ place < 8) (h : DueAll kind place value extra sg home Rs Rs' ans) {i : Nat} (hi : i ≠ 0) : (Rs' i).getD 4 default = (Rs i).getD 4 default := by
  rcases h with ⟨R', a, k1, rfl, -⟩ | ⟨-, rfl, -⟩ | ⟨-, rfl, -⟩ | ⟨-, rfl, -⟩
  · by_cases e : i = home
    · rw [e, updf_self]; exact k1.row4 hp
    · rw [updf_ne _ _ e]
  · rw [updf_ne _ _ hi]
  · rw [updf_ne _ _ hi]
  · rfl
/-- the rows that the deletes at the end have emptied -/
def Emp (Rs : Nat → List Str) (k : Nat) : Prop := ∀ h j, h < 3 → j < 4 → 4 * h + j < k → (Rs h).getD j default = Str.ofString ""
theorem Emp.step {Rs Rs' : Nat → List Str} {h j : Nat} {value extra : Int} {sg : Str} {ans : Ans} (hl : ∀ i < 3, (Rs i).length = 5) (hh : h < 3) (hj : j < 4) (E : Emp Rs (4 * h + j)) (dd : DueAll 1 (([1, 2, 4, 5] : List Int).getD j 0) value extra sg h Rs Rs' ans) : Emp Rs' (4 * h + j + 1) := by
  have hw : whichP (([1, 2, 4, 5] : List Int).getD j 0) = j ∧ faultP false (([1, 2, 4, 5] : List Int).getD j 0) = Str.ofString "" := by
    have : j = 0 ∨ j = 1 ∨ j = 2 ∨ j = 3 := nlt4 (by first | with_reducible assumption | omega)
    rcases this with rfl | rfl | rfl | rfl <;> exact ⟨rfl, rfl⟩
  rcases dd with ⟨R', a, k1, rfl, -⟩ | ⟨e, -⟩ | ⟨e, -⟩ | ⟨e, -⟩
  · rcases k1 with ⟨e, -⟩ | ⟨-, k1⟩ | ⟨e, -⟩ | ⟨e, -⟩ | ⟨e, -⟩
    · exact absurd e (by decide)
    · rw [hw.1, hw.2] at k1
      rcases k1 with ⟨e, -⟩ | ⟨-, rfl, -⟩
      · exact absurd rfl e
      · intro h' j' h1 h2 h3
        by_cases e : h' = h
        · subst e
          rw [updf_self]
          by_cases e2 : j' = j
          · subst e2
            exact getD_set_eq (by rw [hl _ h1]; omega)
          · rw [getD_set_ne (Ne.symm e2)]
            exact E _ _ h1 h2 (by omega)
        · rw [updf_ne _ _ e]
          exact E _ _ h1 h2 (by omega)
    · exact absurd e (by decide)
    · exact absurd e (by decide)
    · exact absurd e (by decide)
  · exact absurd e (by decide)
  · exact absurd e (by decide)
  · exact absurd e (by decide)
structure Six where
  kind : Int
  turn : Nat
  place : Int
  value : Int
  extra : Int
  fig : Int
def SixOk (q : Six) : Prop := (0 ≤ q.kind ∧ q.kind < 8) ∧ q.turn < 4 ∧ (0 ≤ q.place ∧ q.place < 8) ∧ (0 ≤ q.value ∧ q.value < 8) ∧ (0 ≤ q.extra ∧ q.extra < 8) ∧ 0 ≤ q.fig ∧ q.fig < 33
def endsL : List Six := [⟨7, 2, 0, 0, 0, 0⟩, ⟨1, 1, 1, 0, 0, 0⟩, ⟨1, 1, 2, 0, 0, 0⟩, ⟨1, 1, 4, 0, 0, 0⟩, ⟨1, 1, 5, 0, 0, 0⟩, ⟨1, 2, 1, 0, 0, 0⟩, ⟨1, 2, 2, 0, 0, 0⟩, ⟨1, 2, 4, 0, 0, 0⟩, ⟨1, 2, 5, 0, 0, 0⟩, ⟨1, 3, 1, 0, 0, 0⟩, ⟨1, 3, 2, 0, 0, 0⟩, ⟨1, 3, 4, 0, 0, 0⟩, ⟨1, 3, 5, 0, 0, 0⟩]
theorem endsL_ok : ∀ q ∈ endsL, SixOk q := by
  simp only [endsL, List.forall_mem_cons]
  refine ⟨?_, ?_, ?_, ?_, ?_, ?_, ?_, ?_, ?_, ?_, ?_, ?_, ?_, fun _ h => nomatch h⟩ <;> (unfold SixOk; decide)
theorem endsL_at {h j : Nat} (hh : h < 3) (hj : j < 4) : endsL[1 + (4 * h + j)]? = some ⟨1, h + 1, ([1, 2, 4, 5] : List Int).getD j 0, 0, 0, 0⟩ := by
  have h3 : h = 0 ∨ h = 1 ∨ h = 2 := nlt3 (by first | with_reducible assumption | omega)
  have j4 : j = 0 ∨ j = 1 ∨ j = 2 ∨ j = 3 := nlt4 (by first | with_reducible assumption | omega)
  rcases h3 with rfl | rfl | rfl <;> rcases j4 with rfl | rfl | rfl | rfl <;> rfl
theorem emp_next {Rs Rs' : Nat → List Str} {dq : List Six} {i : Nat} {q : Six} {sg : Str} {ans : Ans} (hl : ∀ i < 3, (Rs i).length = 5) (hd : dq.length = 10) (hi : i < 23) (hq : (dq ++ endsL)[i]? = some q) (E : Emp Rs (i - 11)) (dd : DueAll q.kind q.place q.value q.extra sg (homeOf q.turn) Rs Rs' ans) : Emp Rs' (i + 1 - 11) := by
  by_cases h : i ≤ 10
  · intro h' j' _ _ h3
    omega
  · obtain ⟨a, b, ha, hb, e⟩ : ∃ a b, a < 3 ∧ b < 4 ∧ i = 11 + (4 * a + b) := ⟨(i - 11) / 4, (i - 11) % 4, by omega, by omega, by omega⟩
    subst e
    rw [List.getElem?_append_right (by omega), hd, show 11 + (4 * a + b) - 10 = 1 + (4 * a + b) by omega, endsL_at ha hb] at hq
    cases hq
    have e1 : 11 + (4 * a + b) - 11 = 4 * a + b := by omega
    have e2 : 11 + (4 * a + b) + 1 - 11 = 4 * a + b + 1 := by omega
    rw [e1] at E
    rw [e2]
    refine Emp.step (value := 0) (extra := 0) (sg := sg) (ans := ans) hl ha hb E ?_
    have eh : homeOf (a + 1) = a := by
      have : a = 0 ∨ a = 1 ∨ a = 2 := nlt3 (by first | with_reducible assumption | omega)
      rcases this with rfl | rfl | rfl <;> rfl
    rw [← eh]
    exact eh ▸ dd
theorem emp_len {ps : List (Str × Value)} (h : ∀ j < 4, (rowsL ps).getD j default = Str.ofString "") : ps.length = ((rowsL ps).getD 4 default).length := by
  have := rowsL_total ps
  have e0 := h 0 (by decide)
  have e1 := h 1 (by decide)
  have e2 := h 2 (by decide)
  have e3 := h 3 (by decide)
  unfold rowsL at *
  simp only [List.map_cons, List.map_nil, List.sum_cons, List.sum_nil] at this
  have f : ∀ {k : Nat} {l : List Str} , l.getD k default = Str.ofString "" → (l.getD k default).length = 0 := fun h => by rw [h]; rfl
  have f0 : (ofL (rowN ps 0)).length = 0 := f e0
  have f1 : (ofL (rowN ps 1)).length = 0 := f e1
  have f2 : (ofL (rowN ps 2)).length = 0 := f e2
  have f3 : (ofL (rowN ps 3)).length = 0 := f e3
  show ps.length = (ofL (rowN ps 4)).length
  omega
def SixAt (n : List (Addr × Obj)) (v : Value) (q : Six) : Prop := ∃ t k t1 t2 t3 t4 t5 t6, v = .ref t ∧ (t, ({ cls := .type "tuple", data := .seq #[.int q.kind t1, .int (q.turn : Int) t2, .int q.place t3, .int q.value t4, .int q.extra t5, .int q.fig t6] k } : Obj)) ∈ n
theorem SixAt.mono {n n' : List (Addr × Obj)} {v : Value} {q : Six} (h : SixAt n v q) (k : ∀ p ∈ n, p ∈ n') : SixAt n' v q := by
  obtain ⟨t, c, t1, t2, t3, t4, t5, t6, e, hm⟩ := h
  exact ⟨t, c, t1, t2, t3, t4, t5, t6, e, k _ hm⟩
theorem paired_idx {α β : Type} {F : α → β → Prop} {a : List α} {b : List β} (h : Paired F a b) : ∀ {i : Nat} {x : α}, a[i]? = some x → ∃ y, b[i]? = some y ∧ F x y := by
  induction h with
  | nil => intro i x h; simp at h
  | cons h _ ih =>
    intro i x e
    cases i with
    | zero => cases e; exact ⟨_, rfl, h⟩
    | succ j => exact ih (List.getElem?_cons_succ ▸ e)
/-- the word of the law's loop -/
def LawJ (w : World) (T : Tb) (r TT tl dl : Addr) (ks : List (Addr × Obj)) (M : Str → Option Value) : Nat → (Str → Option Value) → List (Addr × Obj) → Prop := fun i m' n' =>
  Agree [Str.ofString "kind", Str.ofString "turn", Str.ofString "place", Str.ofString "value", Str.ofString "extra", Str.ofString "figure", Str.ofString "sign", Str.ofString "home", Str.ofString "sizes", Str.ofString "shown"] M m' ∧
  ∃ ps rk ra ts ds fz, LS w n' T ps r rk ra (fun i => rowsL (ps i)) TT tl dl ts ds fz ∧ Paired (Alike fz 2) ts ds ∧ ts.length = 1 + 5 * i ∧ (∀ h < 3, ∀ q ∈ ps h, PairOk q) ∧ (∀ h < 3, (ps h).length ≤ 3 + i) ∧ (∀ h < 3, h ≠ 0 → (rowsL (ps h)).getD 4 default = Str.ofString "") ∧ Emp (fun i => rowsL (ps i)) (i - 11) ∧ (∀ p ∈ ks, p ∈ fz) ∧ ∀ p ∈ fz, isIter p.2 = false
theorem LawJ.mono {w : World} {T : Tb} {r TT tl dl : Addr} {ks : List (Addr × Obj)} {M : Str → Option Value} {n₀ : List (Addr × Obj)} (i : Nat) (m : Str → Option Value) (n n' : List (Addr × Obj)) (I : Addr) (_ : ∀ p ∈ n₀, p.1 ≠ I) (h2 : ∀ p ∈ n, isIter p.2 = false → p.1 ≠ I) (h3 : LawJ w T r TT tl dl ks M i m n) (h4 : ∀ p ∈ n, p.1 ≠ I → p ∈ n') : LawJ w T r TT tl dl ks M i m n' := by
  obtain ⟨hA, ps, rk, ra, ts, ds, fz, X, h5, h6, h7, h8, h9, h10, h11, h12⟩ := h3
  exact ⟨hA, ps, rk, ra, ts, ds, fz, X.noIter (fun p hp hi => h4 p hp (h2 p hp hi)) fun p hp => h4 p (X.fr p hp) (h2 p (X.fr p hp) (h12 p hp)), h5, h6, h7, h8, h9, h10, h11, h12⟩
theorem Alike.noIter {n n' : List (Addr × Obj)} (k : ∀ q ∈ n, isIter q.2 = false → q ∈ n') : ∀ {d : Nat} {v w : Value}, Alike n d v w → Alike n' d v w
  | 0, _, _, h => h
  | d + 1, v, w, h => by
    rcases h with h | ⟨a, b, x, y, e1, e2, h3, h4⟩
    · exact .inl h
    · refine .inr ⟨a, b, x, y, e1, e2, ?_, Paired.imp h4 fun _ _ h => Alike.noIter k h⟩
      rcases h3 with ⟨i, j, h5, h6⟩ | ⟨h5, h6⟩
      · exact .inl ⟨i, j, k _ h5 isIter_list, k _ h6 isIter_list⟩
      · exact .inr ⟨k _ h5 rfl, k _ h6 rfl⟩
end
section
theorem kw57 : True := by
  w_top off
  trivial
/-- how many pairs, or other things, the four tables' lists hold -/
def Sized (w : World) (n : List (Addr × Obj)) (T : Tb) (f : Nat → Nat) : Prop := ∀ t < 4, ∃ its k, Tab w n (T.X t) (T.Lh (homeOf t)) ∧ (T.Lh (homeOf t), listOf its k) ∈ n ∧ its.size = f t
theorem Sized.mono {w : World} {n n' : List (Addr × Obj)} {T : Tb} {f : Nat → Nat} (h : Sized w n T f) (k : ∀ q ∈ n, q ∈ n') : Sized w n' T f := fun t ht => let ⟨its, c, h1, h2, h3⟩ := h t ht; ⟨its, c, h1.mono k, k _ h2, h3⟩
theorem Homes.sized {w : World} {h₀ h : Heap} {L : Addr} {n n' : List (Addr × Obj)} {T : Tb} {ps : Nat → List (Str × Value)} {its0 its1 : Array Value} {k0 k1 : Nat} (N : News h₀ L h n) (H : Homes w n T ps) (D : T.Apart) (h0 : (T.Lh 0, listOf its0 k0) ∈ n) (K : Kept (T.Lh 0) n n') (h1 : (T.Lh 0, listOf its1 k1) ∈ n') : Sized w n' T (fun t => if homeOf t = 0 then its1.size else (ps (homeOf t)).length) := fun t ht => by
  obtain ⟨its, k, B⟩ := H t ht
  have hT : Tab w n' (T.X t) (T.Lh (homeOf t)) := by
    refine ⟨_, _, K _ B.hx (news_ne N B.hx h0 ?_), K _ B.hd (news_ne N B.hd h0 ?_)⟩
    · show Value.ref 184 ≠ Value.type "list"; decide
    · show Value.type "dict" ≠ Value.type "list"; decide
  by_cases e : homeOf t = 0
  · refine ⟨its1, k1, hT, by rw [e]; exact h1, (if_pos e).symm⟩
  · refine ⟨its, k, hT, K _ B.hl (D _ _ (homeOf_lt ht) (by decide) e), ?_⟩
    show _ = if homeOf t = 0 then _ else _
    rw [if_neg e]
    exact B.size
end
section
theorem kw58 : True := by
  w_top off
  trivial
theorem apart3 {f : Nat → Addr} (h1 : f 0 ≠ f 1) (h2 : f 0 ≠ f 2) (h3 : f 1 ≠ f 2) : ∀ i j, i < 3 → j < 3 → i ≠ j → f i ≠ f j := fun i j hi hj hij => by
  rcases nlt3 hi with rfl | rfl | rfl <;> rcases nlt3 hj with rfl | rfl | rfl
  · exact absurd rfl hij
  · exact h1
  · exact h2
  · exact h1.symm
  · exact absurd rfl hij
  · exact h3
  · exact h2.symm
  · exact h3.symm
  · exact absurd rfl hij
def givenL (t0 t1 t2 : Tok) : List (Str × Value) := [(Str.ofString "A", .str (Str.ofString "x") t0), (Str.ofString "", .str (Str.ofString "") t1), (Str.ofString "a", .str (Str.ofString "x\ty") t2)]
theorem gA : ctlIn isCtlN (Str.ofString "A").cps = false ∧ clsN (Str.ofString "A") = 0 ∧ (Str.ofString "A").length ≤ 1000 ∧ ctlIn isCtlV (Str.ofString "x").cps = false ∧ (Str.ofString "x").length ≤ 3000 := by decide +kernel
theorem gE : ctlIn isCtlN (Str.ofString "").cps = false ∧ clsN (Str.ofString "") = 2 ∧ (Str.ofString "").length ≤ 1000 ∧ ctlIn isCtlV (Str.ofString "").cps = false ∧ (Str.ofString "").length ≤ 3000 := by decide +kernel
theorem ga : ctlIn isCtlN (Str.ofString "a").cps = false ∧ clsN (Str.ofString "a") = 0 ∧ (Str.ofString "a").length ≤ 1000 ∧ ctlIn isCtlV (Str.ofString "x\ty").cps = false ∧ (Str.ofString "x\ty").length ≤ 3000 := by decide +kernel
theorem given_cut {n : List (Addr × Obj)} {D0 D1 D2 : Addr} {a0 a1 a2 g0 g1 g2 : Tok} {z : Int} {c : Nat} (hz : z = (c : Int)) (hc : c < 4) (m0 : (D0, pairObj (Str.ofString "A") a0 (.str (Str.ofString "x") g0)) ∈ n) (m1 : (D1, pairObj (Str.ofString "") a1 (.str (Str.ofString "") g1)) ∈ n) (m2 : (D2, pairObj (Str.ofString "a") a2 (.str (Str.ofString "x\ty") g2)) ∈ n) : PairsN n (slicePick #[Value.ref D0, Value.ref D1, Value.ref D2] none (some z) none).toList ((givenL g0 g1 g2).take c) := by
  subst hz
  rcases (nlt4 (by first | with_reducible assumption | omega) : c = 0 ∨ c = 1 ∨ c = 2 ∨ c = 3) with rfl | rfl | rfl | rfl
  · exact .nil
  · exact .cons ⟨_, _, rfl, m0, gA.2.2.1⟩ .nil
  · exact .cons ⟨_, _, rfl, m0, gA.2.2.1⟩ (.cons ⟨_, _, rfl, m1, gE.2.2.1⟩ .nil)
  · exact .cons ⟨_, _, rfl, m0, gA.2.2.1⟩ (.cons ⟨_, _, rfl, m1, gE.2.2.1⟩ (.cons ⟨_, _, rfl, m2, ga.2.2.1⟩ .nil))
theorem givenL_all {g0 g1 g2 : Tok} {c : Nat} {P : Str × Value → Prop} (h0 : P (Str.ofString "A", .str (Str.ofString "x") g0)) (h1 : P (Str.ofString "", .str (Str.ofString "") g1)) (h2 : P (Str.ofString "a", .str (Str.ofString "x\ty") g2)) : ∀ q ∈ (givenL g0 g1 g2).take c, P q := fun q hq => by
  have hq := List.mem_of_mem_take hq
  simp only [givenL, List.mem_cons, List.not_mem_nil, or_false] at hq
  rcases hq with rfl | rfl | rfl
  · exact h0
  · exact h1
  · exact h2
theorem givenL_big {g0 g1 g2 : Tok} {c : Nat} : ∀ q ∈ (givenL g0 g1 g2).take c, VBig q.2 := givenL_all (.inl ⟨_, _, rfl, gA.2.2.2.2⟩) (.inl ⟨_, _, rfl, gE.2.2.2.2⟩) (.inl ⟨_, _, rfl, ga.2.2.2.2⟩)
theorem givenL_good {g0 g1 g2 : Tok} {c : Nat} : ∀ q ∈ (givenL g0 g1 g2).take c, goodPr q := givenL_all ⟨gA.1, _, _, rfl, gA.2.2.2.1⟩ ⟨gE.1, _, _, rfl, gE.2.2.2.1⟩ ⟨ga.1, _, _, rfl, ga.2.2.2.1⟩
theorem givenL_ok {g0 g1 g2 : Tok} {c : Nat} : ∀ q ∈ (givenL g0 g1 g2).take c, PairOk q := givenL_all ⟨.inl ⟨_, _, rfl, gA.2.2.2.2⟩, .inl ⟨gA.2.1 ▸ (by decide : 0 < 4), gA.1⟩⟩ ⟨.inl ⟨_, _, rfl, gE.2.2.2.2⟩, .inl ⟨gE.2.1 ▸ (by decide : 2 < 4), gE.1⟩⟩ ⟨.inl ⟨_, _, rfl, ga.2.2.2.2⟩, .inl ⟨ga.2.1 ▸ (by decide : 0 < 4), ga.1⟩⟩
theorem givenL_len {g0 g1 g2 : Tok} {c : Nat} (h : c < 4) : ((givenL g0 g1 g2).take c).length = c := by
  rw [List.length_take]
  show min c 3 = c
  omega
theorem givenL_rows {g0 g1 g2 : Tok} {c : Nat} (h : c < 4) : rowsL ((givenL g0 g1 g2).take c) = [ofL (List.replicate ((c + 1) / 2) 120), Str.ofString "", ofL (List.replicate (c / 2) 120), Str.ofString "", Str.ofString ""] := by
  have k0 : markN (.str (Str.ofString "x") g0) = 120 := by show (if ctlIn isCtlV (Str.ofString "x").cps then 111 else 120) = 120; rw [gA.2.2.2.1]; rfl
  have k1 : markN (.str (Str.ofString "") g1) = 120 := by show (if ctlIn isCtlV (Str.ofString "").cps then 111 else 120) = 120; rw [gE.2.2.2.1]; rfl
  have k2 : markN (.str (Str.ofString "x\ty") g2) = 120 := by show (if ctlIn isCtlV (Str.ofString "x\ty").cps then 111 else 120) = 120; rw [ga.2.2.2.1]; rfl
  rcases (nlt4 (by first | with_reducible assumption | omega) : c = 0 ∨ c = 1 ∨ c = 2 ∨ c = 3) with rfl | rfl | rfl | rfl
  · rfl
  all_goals
    simp only [rowsL, rowN, givenL, List.take, List.filter, gA.2.1, gE.2.1, ga.2.1, beq_self_eq_true, Nat.reduceBEq, List.map_cons, List.map_nil, k0, k1, k2]
    rfl
def sixOf (c : Int) : Six := ⟨c.fmod 8, ((c.fdiv 8).fmod 4).toNat, (c.fdiv 32).fmod 8, (c.fdiv 256).fmod 8, (c.fdiv 2048).fmod 8, (c.fdiv 16384).fmod 33⟩
theorem sixOf_turn (c : Int) : ((sixOf c).turn : Int) = (c.fdiv 8).fmod 4 := Int.toNat_of_nonneg (Int.fmod_nonneg_of_pos _ (by decide))
theorem sixOf_ok (c : Int) : SixOk (sixOf c) := by
  have f : ∀ (x : Int) {b : Int}, 0 < b → 0 ≤ x.fmod b ∧ x.fmod b < b := fun x _ h => ⟨Int.fmod_nonneg_of_pos _ h, Int.fmod_lt_of_pos _ h⟩
  have h2 := f (c.fdiv 8) (show (0 : Int) < 4 by decide)
  have h3 := sixOf_turn c
  refine ⟨f c (by decide), by omega, f _ (by decide), f _ (by decide), f _ (by decide), (f _ (show (0 : Int) < 33 by decide)).1, (f _ (show (0 : Int) < 33 by decide)).2⟩
/-- the word of the comprehensions of sixes -/
def SixJ (f : Nat → Six) (i : Nat) (zs : List Value) (n : List (Addr × Obj)) : Prop := ∃ tz : List (Addr × Obj), Paired (SixAt tz) zs ((List.range i).map f) ∧ (∀ p ∈ tz, p ∈ n) ∧ ∀ p ∈ tz, p.2.cls = .type "tuple" ∧ isIter p.2 = false
theorem SixJ.start {f : Nat → Six} {n : List (Addr × Obj)} : SixJ f 0 [] n := ⟨[], .nil, (fun _ h => nomatch h), (fun _ h => nomatch h)⟩
theorem SixJ.step {f : Nat → Six} {i : Nat} {zs : List Value} {n : List (Addr × Obj)} {D : Addr} {a b c d e g : Int} {t1 t2 t3 t4 t5 t6 : Tok} (J : SixJ f i zs n) (ha : a = (f i).kind) (hb : b = ((f i).turn : Int)) (hc : c = (f i).place) (hd : d = (f i).value) (he : e = (f i).extra) (hg : g = (f i).fig) : SixJ f (i + 1) (zs ++ [.ref D]) ([(D, ({ cls := .type "tuple", data := .seq #[.int a t1, .int b t2, .int c t3, .int d t4, .int e t5, .int g t6] } : Obj))] ++ n) := by
  obtain ⟨tz, P, h1, h2⟩ := J
  subst ha hb hc hd he hg
  refine ⟨(D, ({ cls := .type "tuple", data := .seq #[.int (f i).kind t1, .int ((f i).turn : Int) t2, .int (f i).place t3, .int (f i).value t4, .int (f i).extra t5, .int (f i).fig t6] } : Obj)) :: tz, ?_, fun p hp => ?_, fun p hp => ?_⟩
  · rw [List.range_succ, List.map_append]
    exact Paired.snoc (Paired.imp P fun _ _ h => h.mono fun q hq => .tail _ hq) ⟨D, _, t1, t2, t3, t4, t5, t6, rfl, .head _⟩
  · rcases List.mem_cons.mp hp with rfl | hp
    · exact .head _
    · exact .tail _ (h1 p hp)
  · rcases List.mem_cons.mp hp with rfl | hp
    · exact ⟨rfl, rfl⟩
    · exact h2 p hp
theorem SixJ.deed {cs : List Int} {c : Int} {i : Nat} {zs : List Value} {n : List (Addr × Obj)} {D : Addr} {t1 t2 t3 t4 t5 t6 : Tok} (J : SixJ (fun i => sixOf (cs.getD i 0)) i zs n) (hc : cs.getD i 0 = c) : SixJ (fun i => sixOf (cs.getD i 0)) (i + 1) (zs ++ [.ref D]) ([(D, ({ cls := .type "tuple", data := .seq #[.int (c.fmod 8) t1, .int ((c.fdiv 8).fmod 4) t2, .int ((c.fdiv 32).fmod 8) t3, .int ((c.fdiv 256).fmod 8) t4, .int ((c.fdiv 2048).fmod 8) t5, .int ((c.fdiv 16384).fmod 33) t6] } : Obj))] ++ n) := by
  subst hc
  exact J.step rfl (sixOf_turn _).symm rfl rfl rfl rfl
end
section
theorem kw59 : True := by
  w_top off
  trivial
section
variable {w : World} {A : Around} {E : Value → Shared → Prop} {s : Shared} {h : Heap} {tk : Nat} {C : Addr} {m₃ : Str → Option Value} {env : Env} {scope : Scope} {cl : List (Str × Addr)} {p1 p2 p3 p4 p5 : Pos} {Q : Value → Shared → Prop} {c : Int} {t : Tok}
theorem mod_elt {b : Int} {k1 : Nat} (hb : b ≠ 0) (hk : (compEnvC scope cl C env).scope.kind = .function) (hj : (compEnvC scope cl C env).kindOf (Str.ofString "c") = some .local) (hn : h.Ns C m₃) (hm : m₃ (Str.ofString "c") = some (.int c t))
   (hQ : ∀ t k, Q (.int (c.fmod b) t) {s with heap := h, toks := k}) :
   wpAny (model pg w) A (eval (.BinOp (.Name (Str.ofString "c") p1) .Mod (.Constant (.int b) k1 p2) p3) (compEnvC scope cl C env)) Q E {s with heap := h, toks := tk} := by
  refine wpAny_BinOp ?_
  refine wpAny_Name (wpAny_loadName_local hk hj hn hm ?_)
  refine wpAny_Constant_int ?_
  refine mod_int hb ?_
  exact hQ _ _
theorem divmod_elt {a b : Int} {k1 k2 : Nat} (ha : a ≠ 0) (hb : b ≠ 0) (hp : Builtin.divisionGoesByPylong c a = false) (hk : (compEnvC scope cl C env).scope.kind = .function) (hj : (compEnvC scope cl C env).kindOf (Str.ofString "c") = some .local) (hn : h.Ns C m₃) (hm : m₃ (Str.ofString "c") = some (.int c t))
   (hQ : ∀ t k, Q (.int ((c.fdiv a).fmod b) t) {s with heap := h, toks := k}) :
   wpAny (model pg w) A (eval (.BinOp (.BinOp (.Name (Str.ofString "c") p1) .FloorDiv (.Constant (.int a) k1 p2) p3) .Mod (.Constant (.int b) k2 p4) p5) (compEnvC scope cl C env)) Q E {s with heap := h, toks := tk} := by
  refine wpAny_BinOp ?_
  refine wpAny_BinOp ?_
  refine wpAny_Name (wpAny_loadName_local hk hj hn hm ?_)
  refine wpAny_Constant_int ?_
  refine floordiv_int ha ?_ (.inl hp)
  refine wpAny_Constant_int ?_
  refine mod_int hb ?_
  exact hQ _ _
end
end
section
theorem kw60 : True := by
  w_top off
  trivial
def endQ (k : Nat) : Six := ⟨1, 1 + k / 4, ([1, 2, 4, 5] : List Int).getD (k % 4) 0, 0, 0, 0⟩
theorem endQ_all : endsL = ⟨7, 2, 0, 0, 0, 0⟩ :: (List.range 12).map endQ := rfl
section
variable {w : World} {A : Around} {E : Value → Shared → Prop} {s : Shared} {h₀ h : Heap} {L : Addr} {tk : Nat} {C : Addr} {m m₃ : Str → Option Value} {news : List (Addr × Obj)} {env : Env} {scope : Scope} {cl : List (Str × Addr)} {p1 p2 p3 p4 p5 p6 p7 : Pos} {Q : Value → Shared → Prop} {u v : Value} {k1 k4 k5 k6 kk : Nat}
theorem ends_elt (F : Fr h₀ L h m) (N : News h₀ L h news) (hk : (compEnvC scope cl C env).scope.kind = .function) (hj : (compEnvC scope cl C env).kindOf (Str.ofString "turn") = some .local) (hj2 : (compEnvC scope cl C env).kindOf (Str.ofString "place") = some .local) (hn : h.Ns C m₃) (h1 : m₃ (Str.ofString "turn") = some u) (h2 : m₃ (Str.ofString "place") = some v)
   (hQ : ∀ D h' k t1 t4 t5 t6, Fr h₀ L h' m → News h₀ L h' ((D, ({ cls := .type "tuple", data := .seq #[.int 1 t1, u, v, .int 0 t4, .int 0 t5, .int 0 t6] } : Obj)) :: news) → (∀ p ∈ news, p.1 < D) → Q (.ref D) {s with heap := h', toks := k}) :
   wpAny (model pg w) A (eval (.Tuple [.Constant (.int 1) k1 p1, .Name (Str.ofString "turn") p2, .Name (Str.ofString "place") p3, .Constant (.int 0) k4 p4, .Constant (.int 0) k5 p5, .Constant (.int 0) k6 p6] kk p7) (compEnvC scope cl C env)) Q E {s with heap := h, toks := tk} := by
  refine Tuple_ ?_
  refine spliced_more ?_
  refine wpAny_Constant_int ?_
  refine spliced_more ?_
  refine wpAny_Name (wpAny_loadName_local hk hj hn h1 ?_)
  refine spliced_more ?_
  refine wpAny_Name (wpAny_loadName_local hk hj2 hn h2 ?_)
  refine spliced_more ?_
  refine wpAny_Constant_int ?_
  refine spliced_more ?_
  refine wpAny_Constant_int ?_
  refine spliced_more ?_
  refine wpAny_Constant_int ?_
  refine spliced_none ?_
  refine kup_newTuple F N ?_ (by rw [sizeLine_eq]; exact (by decide : 6 ≤ 16777216))
  intro D h' F' N' lD
  exact hQ _ _ _ _ _ _ _ F' N' lD
theorem places_src (hh : A.handled = none) : Src2Ok pg w A env scope cl (.Tuple [.Constant (.int 1) k1 p1, .Constant (.int 2) k4 p2, .Constant (.int 4) k5 p3, .Constant (.int 5) k6 p4] kk p5) h₀ L m s (fun j v => j < 4 → ∃ t, v = .int (([1, 2, 4, 5] : List Int).getD j 0) t) 4 := by
  intro C n₂ h tk m₃ E' F N hn hC
  refine Tuple_ ?_
  refine spliced_more ?_
  refine wpAny_Constant_int ?_
  refine spliced_more ?_
  refine wpAny_Constant_int ?_
  refine spliced_more ?_
  refine wpAny_Constant_int ?_
  refine spliced_more ?_
  refine wpAny_Constant_int ?_
  refine spliced_none ?_
  refine kup_newTuple F N ?_ (by rw [sizeLine_eq]; exact (by decide : 4 ≤ 16777216))
  intro D h' F' N' lD
  refine src_tuple (s := s) (nw := []) (n₂ := []) hh F' N' (.head _) (by rw [sizeLine_eq]; exact (by decide : 4 ≤ 16777216)) ?_
  intro I P St h'' O hP
  refine ⟨I, [I, D], [I], P, St, h'', _, [(D, _)], rfl, rfl, O, fun b hb => ?_, fun q hq e he => ?_, fun j v hv hj => ?_⟩
  · rcases List.mem_cons.mp hb with rfl | hb
    · exact .inl rfl
    · rw [List.mem_singleton.mp hb]
      exact .inr ⟨_, List.Mem.head _⟩
  · rw [List.mem_singleton.mp hq]
    exact Nat.ne_of_lt (lD e he)
  · have := hP j v hv
    rcases (nlt4 (by first | with_reducible assumption | omega) : j = 0 ∨ j = 1 ∨ j = 2 ∨ j = 3) with rfl | rfl | rfl | rfl <;> (cases this; exact ⟨_, rfl⟩)
end
theorem SixJ.ends {i j : Nat} {zs : List Value} {n : List (Addr × Obj)} {D : Addr} {t1 t2 t3 t4 t5 t6 : Tok} (hj : j < 4) (J : SixJ endQ (i * 4 + j) zs n) : SixJ endQ (i * 4 + j + 1) (zs ++ [.ref D]) ([(D, ({ cls := .type "tuple", data := .seq #[.int 1 t1, .int ((1 + i : Nat) : Int) t2, .int (([1, 2, 4, 5] : List Int).getD j 0) t3, .int 0 t4, .int 0 t5, .int 0 t6] } : Obj))] ++ n) := by
  refine J.step rfl ?_ ?_ rfl rfl rfl
  · show _ = ((1 + (i * 4 + j) / 4 : Nat) : Int)
    rw [show (i * 4 + j) / 4 = i by omega]
  · show _ = ([1, 2, 4, 5] : List Int).getD ((i * 4 + j) % 4) 0
    rw [show (i * 4 + j) % 4 = j by omega]
theorem SixJ.fin {zs : List Value} {n : List (Addr × Obj)} {D : Addr} {t1 t2 t3 t4 t5 t6 : Tok} (J : SixJ endQ 12 zs n) (hD : (D, ({ cls := .type "tuple", data := .seq #[.int 7 t1, .int 2 t2, .int 0 t3, .int 0 t4, .int 0 t5, .int 0 t6] } : Obj)) ∈ n) : ∃ tz, Paired (SixAt tz) (.ref D :: zs) endsL ∧ (∀ p ∈ tz, p ∈ n) ∧ ∀ p ∈ tz, p.2.cls = .type "tuple" ∧ isIter p.2 = false := by
  obtain ⟨tz, P, h1, h2⟩ := J
  refine ⟨(D, ({ cls := .type "tuple", data := .seq #[.int 7 t1, .int 2 t2, .int 0 t3, .int 0 t4, .int 0 t5, .int 0 t6] } : Obj)) :: tz, ?_, fun p hp => ?_, fun p hp => ?_⟩
  · rw [endQ_all]
    exact .cons ⟨D, 0, t1, t2, t3, t4, t5, t6, rfl, .head _⟩ (Paired.imp P fun _ _ h => h.mono fun q hq => .tail _ hq)
  · rcases List.mem_cons.mp hp with rfl | hp
    · exact hD
    · exact h1 p hp
  · rcases List.mem_cons.mp hp with rfl | hp
    · exact ⟨rfl, rfl⟩
    · exact h2 p hp
end
section
theorem kw61 : True := by
  w_top off
  trivial
theorem Homes.lists {w : World} {n : List (Addr × Obj)} {T : Tb} {ps : Nat → List (Str × Value)} (H : Homes w n T ps) {i : Nat} (hi : i < 3) : ∃ o, (T.Lh i, o) ∈ n := let ⟨its, k, h⟩ := H.list hi; ⟨_, h⟩
theorem LS.make {w : World} {h₀ h : Heap} {L : Addr} {n2 n3 n tz : List (Addr × Obj)} {T : Tb} {ps : Nat → List (Str × Value)} {r : Addr} {ra : Nat → Addr} {Rs : Nat → List Str} {TT tl dl a b : Addr} {ai bi : Array Value} {ka kb : Nat}
    (N : News h₀ L h n) (H : Homes w n2 T ps) (D : T.Apart) (TTne : ∀ i < 3, T.Lh i ≠ TT) (hT : (TT, listOf #[.ref (T.X 0), .ref (T.X 1), .ref (T.X 2), .ref (T.X 3)] 0) ∈ n2)
    (R : RowsAt n3 r 0 ra Rs) (s23 : ∀ q ∈ n2, q ∈ n3) (fr3 : ∀ q ∈ n2, q.1 ≠ r ∧ ∀ i < 3, q.1 ≠ ra i) (s34 : ∀ q ∈ n3, q ∈ n)
    (ht : (tl, listOf #[.ref a] 0) ∈ n) (hd : (dl, listOf #[.ref b] 0) ∈ n) (ha : (a, listOf ai ka) ∈ n) (hb : (b, listOf bi kb) ∈ n)
    (fr4 : ∀ q ∈ n3, q.1 ≠ tl ∧ q.1 ≠ dl ∧ q.1 ≠ a ∧ q.1 ≠ b) (td : tl ≠ dl) (a1 : a ≠ tl) (a2 : a ≠ dl) (b1 : b ≠ tl) (b2 : b ≠ dl)
    (hz : ∀ p ∈ tz, p ∈ n) (hzc : ∀ p ∈ tz, p.2.cls = .type "tuple" ∧ isIter p.2 = false) :
    LS w n T ps r 0 ra Rs TT tl dl [.ref a] [.ref b] ((TT, listOf #[.ref (T.X 0), .ref (T.X 1), .ref (T.X 2), .ref (T.X 3)] 0) :: (a, listOf ai ka) :: (b, listOf bi kb) :: tz) := by
  have lh : ∀ i < 3, ∃ o, (T.Lh i, o) ∈ n2 := fun i hi => H.lists hi
  have rr := fr4 _ R.hr
  have rx : ∀ i < 3, ra i ≠ tl ∧ ra i ≠ dl ∧ ra i ≠ a ∧ ra i ≠ b := fun i hi => by
    obtain ⟨-, its, c, hm, -⟩ := R.row i hi
    exact fr4 _ hm
  have lx : ∀ i < 3, T.Lh i ≠ tl ∧ T.Lh i ≠ dl ∧ T.Lh i ≠ a ∧ T.Lh i ≠ b := fun i hi => by
    obtain ⟨o, hm⟩ := lh i hi
    exact fr4 _ (s23 _ hm)
  have lr : ∀ i < 3, T.Lh i ≠ r ∧ ∀ j < 3, T.Lh i ≠ ra j := fun i hi => by
    obtain ⟨o, hm⟩ := lh i hi
    exact fr3 _ hm
  have xT := fr4 _ (s23 _ hT)
  have yT := fr3 _ hT
  have sub : ∀ q ∈ n2, q ∈ n := fun q hq => s34 q (s23 q hq)
  refine ⟨H.mono sub, D, R.mono s34, ⟨0, .head _⟩, ⟨0, ht⟩, ⟨0, hd⟩, fun p hp => ?_, fun p hp => ?_, td, ⟨rr.1.symm, rr.2.1.symm⟩, fun i hi => ⟨(rx i hi).1.symm, (rx i hi).2.1.symm⟩, fun i hi => ⟨(lx i hi).1.symm, (lx i hi).2.1.symm, (lr i hi).1.symm⟩, fun i j hi hj => ((lr j hj).2 i hi).symm⟩
  · rcases List.mem_cons.mp hp with rfl | hp
    · exact sub _ hT
    · rcases List.mem_cons.mp hp with rfl | hp
      · exact ha
      · rcases List.mem_cons.mp hp with rfl | hp
        · exact hb
        · exact hz p hp
  · rcases List.mem_cons.mp hp with rfl | hp
    · exact ⟨xT.1, xT.2.1, yT.1, yT.2, fun i hi => (TTne i hi).symm⟩
    · rcases List.mem_cons.mp hp with rfl | hp
      · exact ⟨a1, a2, rr.2.2.1.symm, fun i hi => (rx i hi).2.2.1.symm, fun i hi => (lx i hi).2.2.1.symm⟩
      · rcases List.mem_cons.mp hp with rfl | hp
        · exact ⟨b1, b2, rr.2.2.2.symm, fun i hi => (rx i hi).2.2.2.symm, fun i hi => (lx i hi).2.2.2.symm⟩
        · have ne : ∀ {x : Addr} {its : Array Value} {k : Nat}, (x, listOf its k) ∈ n → p.1 ≠ x := fun hx => news_ne (a := p.1) (o₁ := p.2) N (hz p hp) hx (by rw [(hzc p hp).1]; show Value.type "tuple" ≠ Value.type "list"; decide)
          refine ⟨ne ht, ne hd, ne (s34 _ R.hr), fun i hi => ?_, fun i hi => ?_⟩
          · obtain ⟨-, its, c, hm, -⟩ := R.row i hi
            exact ne (s34 _ hm)
          · obtain ⟨its, k, hm⟩ := H.list hi
            exact ne (sub _ hm)
theorem rows_start {g0 g1 g2 : Tok} {c : Nat} (h : c < 4) : (fun i => if i = 0 then [ofL (List.replicate ((c + 1) / 2) 120), Str.ofString "", ofL (List.replicate (c / 2) 120), Str.ofString "", Str.ofString ""] else [Str.ofString "", Str.ofString "", Str.ofString "", Str.ofString "", Str.ofString ""]) = fun i : Nat => rowsL (if i = 0 then (givenL g0 g1 g2).take c else []) := by
  funext i
  by_cases e : i = 0
  · rw [if_pos e, if_pos e, givenL_rows h]
  · rw [if_neg e, if_neg e]
    rfl
end
section

section
theorem kw62 : True := by
  w_top off
  k_with_none
  k_with "k_room" => first | ((try simp only [depth_under_make, depth_under_kw, depth_in1, depth_deeper, depth_caller]); omega) | decide
  k_with "code_def" => (refine' code_def ?k1w2 ?k2w2 ?k3w2 ?k4w2 ?k5w2 ?kAw2 ?kFw2 ?kKw2 ?k6w2 ?k7w2 ?k8w2 ?k9w2 ?kBw2 ?_ ?c2w2 ?c3w2 ?c4w2 ?c5w2; (case k1w2 => k_asm); (case k2w2 => k_asm); (case k3w2 => k_asm); (case k4w2 => k_asm); (case k5w2 => k_asm); (case kAw2 => assumption); (case kFw2 => assumption); (case kKw2 => assumption);  (case k6w2 => k_is); (case k7w2 => k_is); (case k8w2 => k_room); (case k9w2 => first | exact BindsTo.of_eq rfl | exact binds_K (by k_in) rfl (by k_is) rfl rfl rfl | fail "k_enter: no rule for these arguments"); (case c5w2 => decide); (case kBw2 => exact locs rfl); (case c2w2 => exact rfl); (case c3w2 => exact rfl); (case c4w2 => exact rfl))
  k_with "code_defC" => (refine' code_defC ?k1w3 ?k2w3 ?k3w3 ?k4w3 ?k5w3 ?kAw3 ?kFw3 ?kKw3 ?k6w3 ?k7w3 ?k8w3 ?k9w3 ?kBw3 ?kDw3 ?_ ?c2w3 ?c3w3 ?c4w3; (case k1w3 => k_asm); (case k2w3 => k_asm); (case k3w3 => k_asm); (case k4w3 => k_asm); (case k5w3 => k_asm); (case kAw3 => assumption); (case kFw3 => assumption); (case kKw3 => assumption); (case k6w3 => k_is); (case k7w3 => k_is); (case k8w3 => k_room); (case k9w3 => first | exact BindsTo.of_eq rfl | exact binds_K (by k_in) rfl (by k_is) rfl rfl rfl | fail "k_enter: no rule for these arguments"); (case kBw3 => exact rfl); (case kDw3 => decide +kernel); (case c2w3 => exact rfl); (case c3w3 => exact rfl); (case c4w3 => exact rfl))
  k_with "k_mem" => first | assumption | exact List.Mem.head _ | (refine' List.Mem.tail _ ?_; k_mem)
  k_with "k_all" => exact all_ne_of_lt (by assumption) (by first | exact Nat.le_refl _ | exact Nat.le_succ _ | omega)
  k_with "call builtin:str.lower" => (refine PyProof.Rows.SCL.lower (by omega) ?_; intro _)
  k_with "eval ListComp" => refine hold_intro ?_
  k_with "eval Slice none none none" => (refine slice_K (by assumption) (by assumption) ?_; intro _ _ _ _; (try k_sweep))
  k_with "setItem ref ref ref" => refine hold_intro ?_
  k_with "exec Assign cons ListComp" => ((with_reducible show wpAny _ _ (exec (Stmt.Assign [Expr.Subscript _ _ _] _ _) _) _ _ _); refine wpAny_Assign_Subscript ?_)
  k_with "call builtin:len" => (refine' len_L ?Nw11 ?hlw11 ?hsw11 ?_; (case Nw11 => k_asm); (case hlw11 => k_mem); (case hsw11 => omega); intro _ _)
  k_with "subscriptTail Name Slice ref ref" => ((with_reducible show wpAny _ _ (subscriptTail _ _ (Value.ref _) (Value.ref _)) _ _ _); refine' copy_L ?Fw12 ?Nw12 ?hlw12 ?hsw12 ?hzw12 ?_ ?hew12; (case Fw12 => k_asm); (case Nw12 => k_asm); (case hlw12 => k_mem); (case hsw12 => exact List.Mem.head _); (case hzw12 => rw [sizeLine_eq]; omega); (case hew12 => with_unfolding_all rfl); intro _ _ _ _ _; (try k_sweep))
  k_with "kp_more" => (refine' kp_more ?k1w13 ?k2w13 ?k3w13 ?k4w13 ?k5w13 ?kAw13 ?kFw13 ?kKw13 ?k6w13 ?k7w13 ?k8w13 ?kXw13 ?kMw13 ?kNw13 ?kDw13 ?kRw13 ?kPw13 ?kTw13 ?kBw13 ?_ ?c2w13 ?c3w13 ?c4w13 ?c5w13; (case kAw13 => assumption); (case kFw13 => assumption); (case kKw13 => assumption); (case k1w13 => k_asm); (case k2w13 => k_asm); (case k3w13 => k_asm); (case k4w13 => k_asm); (case k5w13 => k_asm); (case k6w13 => k_is); (case k7w13 => k_is); (case k8w13 => k_room); (case kXw13 => kp_lit); (case kMw13 => exact rfl); (case kNw13 => exact rfl); (case kDw13 => kp_flats); (case kRw13 => exact rfl); (case kPw13 => exact rfl); (case kTw13 => exact fun _ => rfl); (case kBw13 => exact fun _ => locs rfl); (case c5w13 => decide); (case c2w13 => exact rfl); (case c3w13 => exact rfl); (case c4w13 => exact rfl))
  k_with "exec For Tuple Name" => refine hold_intro ?_
  k_with "exec For Tuple Call" => refine hold_intro ?_
  k_with "exec For Tuple Call cons nil" => refine hold_intro ?_
  k_with "exec For Tuple Name cons nil" => refine hold_intro ?_
  k_with "call builtin:list.append" => (refine' append_L ?Fw18 ?Nw18 ?hlw18 ?_ ?hzw18; (case Fw18 => k_asm); (case Nw18 => k_asm); (case hlw18 => k_mem); (case hzw18 => (rw [sizeLine_eq]; omega)); intro _ _ _)
  k_with "execs cons" => ((with_reducible show wpAny _ _ (execs [_] _) _ _ _); refine execs_one ?_)
  k_with "k_room" => first | exact room0 (by with_reducible assumption) (by decide) | exact room1 (by with_reducible assumption) rfl (by decide) | exact room2 (by with_reducible assumption) rfl (by decide)
  k_with "storeName" => ((with_reducible show wpAny _ _ (storeName _ _ _) _ _ _); dsimp only)
  k_with "newList" => ((with_reducible show wpAny _ _ (newList _) _ _ _); dsimp only)
  k_with "newTuple" => ((with_reducible show wpAny _ _ (newTuple _) _ _ _); dsimp only)
  k_with "getMethod ref" => ((with_reducible show wpAny _ _ (getMethod (Value.ref _) (PySem.Str.ofString "append") _) _ _ _); (refine' listMethod_K ?Nw24 ?mw24 PySem.F.slot_list_append PySem.F.type_list_append ?_; (case Nw24 => k_asm); (case mw24 => k_mem)))
  k_with "callWith ref" => ((with_reducible show wpAny _ _ (callWith _ _ _ _ (backToKw _ _)) _ _ _); k_dflt (refine' callWith_KW ?k1w25 ?k2w25 ?k3w25 ?_; (case k1w25 => k_asm); (case k2w25 => k_is); (case k3w25 => exact rfl); k_whole))
  k_with "mk_sit" => (refine' Sit.mk ?KXw26 ?Tw26 ?Bw26 ?Fw26 ?Nw26 ?hAw26 ?hfw26 ?hkew26 ?hroomw26 ?hhw26; (case KXw26 => k_asm); (case Tw26 => k_asm); (case Bw26 => k_asm); (case Fw26 => k_asm); (case Nw26 => k_asm); (case hAw26 => first | with_reducible assumption | exact Around.frames_deeper (Below.stack (by with_reducible assumption)) | rfl); (case hfw26 => first | with_reducible assumption | rfl); (case hkew26 => first | with_reducible assumption | rfl); (case hroomw26 => k_room); (case hhw26 => first | with_reducible assumption | exact handled_deeper (by with_reducible assumption) | assumption | rfl))
  k_with "call ref" => ((with_reducible show wpAny _ _ (call (Value.ref 83) [_, Value.str _ _] (List.zip _ [Value.bool true])) _ _ _); k_dflt (refine' conv_name ?Sw27 ?kaw27 ?kbw27 ?_; (case Sw27 => walk_at "mk_sit"); (case kaw27 => k_asm); (case kbw27 => k_asm); k_whole); intro _ _ _ _)
  k_with "call ref" => ((with_reducible show wpAny _ _ (call (Value.ref 83) [_, Value.str _ _] (List.zip _ [Value.bool false])) _ _ _); k_dflt (refine' conv_val ?Sw28 ?kaw28 ?kbw28 ?_; (case Sw28 => walk_at "mk_sit"); (case kaw28 => k_asm); (case kbw28 => k_asm); k_whole); intro _ _ _ _)
  k_with "box" => first | with_reducible assumption | exact Box.tail (by with_reducible assumption) | exact Box.tail (Box.tail (by with_reducible assumption)) | exact Box.tail (Box.tail (Box.tail (by with_reducible assumption))) | exact Box.tail (Box.tail (Box.tail (Box.tail (by with_reducible assumption))))
  k_with "k_mem" => first | with_reducible assumption | exact Box.hx (by with_reducible assumption) | exact Box.hd (by with_reducible assumption) | exact Box.hl (by with_reducible assumption) | exact List.Mem.head _ | (refine' List.Mem.tail _ ?_; k_mem) | (refine' Kept.mem (by with_reducible assumption) ?_ ?_; (k_mem); (first | with_reducible assumption | exact Ne.symm (by with_reducible assumption)))
  k_with "call ref" => ((with_reducible show wpAny _ _ (call (Value.ref 102) [_, Value.str _ _] _) _ _ _); k_dflt (refine' box_del ?Sw31 ?Bw31 ?kaw31 ?kbw31 ?_; (case Sw31 => walk_at "mk_sit"); (case Bw31 => walk_at "box"); (case kaw31 => walk_at "side"); (case kbw31 => walk_at "side"); k_whole); intro _ _ _ _ _ _ _ _ _)
  k_with "call ref" => ((with_reducible show wpAny _ _ (call (Value.ref 123) [_, Value.str _ _] _) _ _ _); k_dflt (refine' box_get ?Sw32 ?Bw32 ?kaw32 ?kbw32 ?_; (case Sw32 => walk_at "mk_sit"); (case Bw32 => walk_at "box"); (case kaw32 => walk_at "side"); (case kbw32 => walk_at "side"); k_whole); intro _ _ _ _ _ _ _ _ _)
  k_with "call ref" => ((with_reducible show wpAny _ _ (call (Value.ref 181) [_, Value.str _ _, Value.none] _) _ _ _); k_dflt (refine' box_none ?Sw33 ?Bw33 ?kaw33 ?kbw33 ?kcw33 ?_; (case Sw33 => walk_at "mk_sit"); (case Bw33 => walk_at "box"); (case kaw33 => walk_at "side"); (case kbw33 => walk_at "side"); (case kcw33 => walk_at "side"); k_whole); intro _ _ _ _ _ _ _ _ _ _)
  k_with "call ref" => ((with_reducible show wpAny _ _ (call (Value.ref 181) [_, Value.str _ _, Value.str _ _] _) _ _ _); k_dflt (refine' box_str ?Sw34 ?Bw34 ?kaw34 ?kbw34 ?kcw34 ?kdw34 ?kew34 ?_; (case Sw34 => walk_at "mk_sit"); (case Bw34 => walk_at "box"); (case kaw34 => walk_at "side"); (case kbw34 => walk_at "side"); (case kcw34 => walk_at "side"); (case kdw34 => walk_at "side"); (case kew34 => walk_at "side"); k_whole); intro _ _ _ _ _ _ _ _ _ _)
  k_with "call ref" => ((show wpAny _ _ (call (Value.ref 148) [Value.ref _]) _ _ _); k_dflt (refine' box_items ?Sw35 ?Bw35 ?_; (case Sw35 => walk_at "mk_sit"); (case Bw35 => walk_at "box"); k_whole); intro _ _ _ _ _ _)
  k_with "side" => first | with_reducible assumption | decide | omega
  k_with "call builtin:len" => (k_dflt (refine' box_len ?Sw37 ?Bw37 ?_; (case Sw37 => walk_at "mk_sit"); (case Bw37 => walk_at "box"); k_whole); intro _ _ _ _ _)
  k_with "call builtin:list.append" => (refine' append_K ?Fw38 ?Nw38 ?hlw38 ?hzw38 ?_; (case Fw38 => k_asm); (case Nw38 => k_asm); (case hlw38 => k_mem); (case hzw38 => (rw [sizeLine_eq]; first | omega | decide)); intro _ _ _ _ _ _)
  k_with "call builtin:list.append" => (refine' box_tell ?Fw39 ?Nw39 ?Bw39 ?htw39 ?hnew39 ?hsw39 ?_; (case Fw39 => k_asm); (case Nw39 => k_asm); (case Bw39 => walk_at "box"); (case htw39 => k_mem); (case hnew39 => assumption); (case hsw39 => walk_at "side"); intro _ _ _ _ _ _ _)
  k_with "call builtin:list.append" => (refine' box_append ?Fw40 ?Nw40 ?Bw40 ?htw40 ?hsw40 ?hzw40 ?_; (case Fw40 => k_asm); (case Nw40 => k_asm); (case Bw40 => walk_at "box"); (case htw40 => exact List.Mem.head _); (case hsw40 => walk_at "side"); (case hzw40 => walk_at "side"); intro _ _ _ _ _ _)
  k_with "exec For Name Call" => refine hold_intro ?_
  k_with "exec For Name Name" => refine hold_intro ?_
  k_with "exec For Name Name cons nil" => refine hold_intro ?_
  k_with "exec For Name Call cons nil" => refine hold_intro ?_
  k_with "kept2" => first | assumption | exact Kept2.start | (refine' Kept2.tail ?_; walk_at "kept2") | (refine' Kept2.left ?kzw45 ?kww45; (case kww45 => assumption); (case kzw45 => walk_at "kept2")) | (refine' Kept2.right ?kzw45 ?kww45; (case kww45 => assumption); (case kzw45 => walk_at "kept2")) | (refine' Kept2.both ?kzw45 ?kww45; (case kww45 => with_reducible assumption); (case kzw45 => walk_at "kept2"))
  k_with "agree" => first | assumption | exact Agree.start | (refine' Agree.set ?_ ?kww46; (case kww46 => decide); walk_at "agree")
  k_with "delItem ref str" => (k_dflt (refine' delItem_own ?Fw47 ?Xw47 ?Iw47 ?hQw47 ?hSw47 ?hFw47 ?_; (case Fw47 => k_asm); (case Xw47 => k_asm); (case Iw47 => k_inst); (case hSw47 => k_is); (case hFw47 => k_is); (case hQw47 => k_is); k_whole))
  k_with "call builtin:len" => (refine' len_L ?Nw48 ?hlw48 ?hsw48 ?_; (case hlw48 => k_mem); (case hsw48 => with_reducible assumption); (case Nw48 => k_asm); intro _ _)
  trivial
theorem Sit.less {w : World} {A A₀ : Around} {h₀ base : Heap} {env : Env} {outer : List Env} {L : Addr} {m mg mb : Str → Option Value} {news : List (Addr × Obj)} {p : Program} {loose : List Str} {mean : ExcName → Option Value} {h : Heap} {a e : Nat} (S : Sit w A A₀ base h₀ env outer L m p loose mean mg mb news h a) (hae : e ≤ a) : Sit w A A₀ base h₀ env outer L m p loose mean mg mb news h e := by
  obtain ⟨KX, T, B', F, N, hA, hf, hke, hroom, hh⟩ := S
  exact ⟨KX, T, B', F, N, hA, hf, hke, room0 hroom hae, hh⟩
theorem getv_big {ps : List (Str × Value)} (h : ∀ q ∈ ps, VBig q.2) (key : Str) : (∃ y t, getv ps key = .str y t) ∨ (∃ t, getv ps key = .int 7 t) ∨ getv ps key = .none := by
  unfold getv
  cases e : ps.find? (fun q => Txt.lower q.1 == key) with
  | none => exact .inr (.inr rfl)
  | some q =>
    rcases h q (List.mem_of_find?_eq_some e) with ⟨s, t, e, -⟩ | ⟨t, e⟩ | e
    · exact .inl ⟨s, t, e⟩
    · exact .inr (.inl ⟨t, e⟩)
    · exact .inr (.inr e)
section
variable {w : World} {A A₀ : Around} {E : Value → Shared → Prop} {s : Shared} {h₀ base : Heap} {env : Env} {outer : List Env} {L x l d : Addr} {tl : Tok} {m mg mb : Str → Option Value} {news : List (Addr × Obj)}
   {p : Program} {loose : List Str} {mean : ExcName → Option Value} {Q : Value → Shared → Prop} {nm : Str} {tk : Tok} {its : Array Value} {n : Nat} {ps : List (Str × Value)} {v nv pv : Value}
theorem del_gen (S : Sit w A A₀ base h₀ env outer L m p loose mean mg mb news s.heap 25) (B : Box w news x l d tl its n ps) (hn : NS nm)
   (ok : ∀ h' t' news' its' n' ps', OutDel nm ps ps' (Str.ofString "") → Fr h₀ L h' m → News h₀ L h' news' → Kept l news news' → Box w news' x l d tl its' n' ps' → Q .none {s with heap := h', toks := t'})
   (bv : ∀ e t g h' t' news' tk' its' n' ps', OutDel nm ps ps' vE → Fr h₀ L g m → RaisedS base g (env :: outer) e (.type "ValueError") t [.str ctlM tk'] news' h' → g.UpToSlots h' → Kept l news news' → Box w news' x l d tl its' n' ps' → E (.ref e) {s with heap := h', toks := t'})
   (ba : ∀ v₀ e t g h' t' news' tk' its' n' ps', OutDel nm ps ps' (aE v₀) → Fr h₀ L g m → RaisedS base g (env :: outer) e (.type "AssertionError") t [.str (errM v₀) tk'] news' h' → g.UpToSlots h' → Kept l news news' → Box w news' x l d tl its' n' ps' → E (.ref e) {s with heap := h', toks := t'}) :
   wpAny (model pg w) A (call (.ref 102) [.ref x, .str nm tk]) Q E s := by
  cases hc : ctlIn isCtlN nm.cps with
  | true => exact del_bad (S.less (by decide)) hn.1 (hn.2.trans hc) B fun e t g h' t' news' tk' F R U sub => bv _ _ _ _ _ _ _ _ _ _ (.inl ⟨hc, rfl, rfl⟩) F R U (fun q hq _ => sub q hq) (B.mono sub)
  | false => exact box_del (S.less (by decide)) B hn.1 (hn.2.trans hc) fun h' t' news' its' n' F N K B => ok _ _ _ _ _ _ (.inr ⟨hc, rfl, rfl⟩) F N K B
theorem def_gen (S : Sit w A A₀ base h₀ env outer L m p loose mean mg mb news s.heap 25) (B : Box w news x l d tl its n ps) (hn : NS nm) (hv : VOk v) (hs : ps.length < 1000) (hb : ∀ q ∈ ps, VBig q.2)
   (ok : ∀ h' t' news' its' n' ps' r, OutDef nm v ps ps' (Str.ofString "") → Fr h₀ L h' m → News h₀ L h' news' → Kept l news news' → Box w news' x l d tl its' n' ps' → Q r {s with heap := h', toks := t'})
   (bv : ∀ e t g h' t' news' tk' its' n' ps', OutDef nm v ps ps' vE → Fr h₀ L g m → RaisedS base g (env :: outer) e (.type "ValueError") t [.str ctlM tk'] news' h' → g.UpToSlots h' → Kept l news news' → Box w news' x l d tl its' n' ps' → E (.ref e) {s with heap := h', toks := t'})
   (ba : ∀ v₀ e t g h' t' news' tk' its' n' ps', OutDef nm v ps ps' (aE v₀) → Fr h₀ L g m → RaisedS base g (env :: outer) e (.type "AssertionError") t [.str (errM v₀) tk'] news' h' → g.UpToSlots h' → Kept l news news' → Box w news' x l d tl its' n' ps' → E (.ref e) {s with heap := h', toks := t'}) :
   wpAny (model pg w) A (call (.ref 174) [.ref x, .str nm tk, v]) Q E s := by
  cases hc : ctlIn isCtlN nm.cps with
  | true => exact setdef_bad S hn.1 (hn.2.trans hc) B fun e t g h' t' news' tk' F R U sub => bv _ _ _ _ _ _ _ _ _ _ (.inl ⟨hc, rfl, rfl⟩) F R U (fun q hq _ => sub q hq) (B.mono sub)
  | false =>
    have hcl := hn.2.trans hc
    rcases getv_big hb (Txt.lower nm) with ⟨y, ty, hg⟩ | ⟨ty, hg⟩ | hg
    · exact setdef_str S B hn.1 hcl hg fun h' t' F N => ok _ _ _ _ _ _ _ (.inr ⟨hc, .inl ⟨by (rw [hg]; exact fun h => nomatch h), rfl, rfl⟩⟩) F N Kept.refl B
    · exact setdef_int S B hn.1 hcl hg fun h' t' F N => ok _ _ _ _ _ _ _ (.inr ⟨hc, .inl ⟨by (rw [hg]; exact fun h => nomatch h), rfl, rfl⟩⟩) F N Kept.refl B
    · exact setdef_new S B hn.1 hcl hc hv hs hg (fun g h' t' news' its' n' F N K B => ok _ _ _ _ _ _ _ (.inr ⟨hc, .inr ⟨hg, .inl ⟨g, rfl, rfl⟩⟩⟩) F N K B)
        (fun b e t g h' t' news' tk' F R U sub => bv _ _ _ _ _ _ _ _ _ _ (.inr ⟨hc, .inr ⟨hg, .inr (.inl ⟨b, rfl, rfl⟩)⟩⟩) F R U (fun q hq _ => sub q hq) (B.mono sub))
        (fun b e t g h' t' news' tk' F R U sub => ba _ _ _ _ _ _ _ _ _ _ _ (.inr ⟨hc, .inr ⟨hg, .inr (.inr ⟨b, rfl, rfl⟩)⟩⟩) F R U (fun q hq _ => sub q hq) (B.mono sub))
theorem add_gen3 (S : Sit w A A₀ base h₀ env outer L m p loose mean mg mb news s.heap 25) (B : Box w news x l d tl its n ps) (hv : VOk v) (hn : VOk nv) (hs : ps.length < 1000)
   (ok : ∀ h' t' news' its' n' ps', OutAdd v .none nv ps ps' (Str.ofString "") → Fr h₀ L h' m → News h₀ L h' news' → Kept l news news' → Box w news' x l d tl its' n' ps' → Q .none {s with heap := h', toks := t'})
   (bv : ∀ e t g h' t' news' tk' its' n' ps', OutAdd v .none nv ps ps' vE → Fr h₀ L g m → RaisedS base g (env :: outer) e (.type "ValueError") t [.str ctlM tk'] news' h' → g.UpToSlots h' → Kept l news news' → Box w news' x l d tl its' n' ps' → E (.ref e) {s with heap := h', toks := t'})
   (ba : ∀ v₀ e t g h' t' news' tk' its' n' ps', OutAdd v .none nv ps ps' (aE v₀) → Fr h₀ L g m → RaisedS base g (env :: outer) e (.type "AssertionError") t [.str (errM v₀) tk'] news' h' → g.UpToSlots h' → Kept l news news' → Box w news' x l d tl its' n' ps' → E (.ref e) {s with heap := h', toks := t'}) :
   wpAny (model pg w) A (call (.ref 181) [.ref x, nv, v]) Q E s := by
  replace S := S.less (e := 20) (by decide)
  exact add_any0 S B hv hn hs (fun g nm tn e1 e2 h' t' news' its' n' u tu F N K B fu => ok _ _ _ _ _ _ (.inr (.inr ⟨g, .inr (.inr ⟨.inr rfl, .inr (.inr ⟨_, _, _, _, e1, e2, fu, rfl, rfl⟩)⟩)⟩)) F N K B)
    (fun b e t g' h' t' news' tk' F R U sub => bv _ _ _ _ _ _ _ _ _ _ (.inl ⟨b, rfl, rfl⟩) F R U (fun q hq _ => sub q hq) (B.mono sub))
    (fun b b2 e t g' h' t' news' tk' F R U sub => ba _ _ _ _ _ _ _ _ _ _ _ (.inr (.inl ⟨b, b2, rfl, rfl⟩)) F R U (fun q hq _ => sub q hq) (B.mono sub))
    (fun g b e t g' h' t' news' tk' F R U sub => bv _ _ _ _ _ _ _ _ _ _ (.inr (.inr ⟨g, .inr (.inr ⟨.inr rfl, .inl ⟨b, rfl, rfl⟩⟩)⟩)) F R U (fun q hq _ => sub q hq) (B.mono sub))
    (fun g b e t g' h' t' news' tk' F R U sub => ba _ _ _ _ _ _ _ _ _ _ _ (.inr (.inr ⟨g, .inr (.inr ⟨.inr rfl, .inr (.inl ⟨b, rfl, rfl⟩)⟩)⟩)) F R U (fun q hq _ => sub q hq) (B.mono sub))
theorem add_gen4 (S : Sit w A A₀ base h₀ env outer L m p loose mean mg mb news s.heap 25) (B : Box w news x l d tl its n ps) (hv : VOk v) (hpv : POk pv) (hn : VOk nv) (hs : ps.length < 1000)
   (ok : ∀ h' t' news' its' n' ps', OutAdd v pv nv ps ps' (Str.ofString "") → Fr h₀ L h' m → News h₀ L h' news' → Kept l news news' → Box w news' x l d tl its' n' ps' → Q .none {s with heap := h', toks := t'})
   (bv : ∀ e t g h' t' news' tk' its' n' ps', OutAdd v pv nv ps ps' vE → Fr h₀ L g m → RaisedS base g (env :: outer) e (.type "ValueError") t [.str ctlM tk'] news' h' → g.UpToSlots h' → Kept l news news' → Box w news' x l d tl its' n' ps' → E (.ref e) {s with heap := h', toks := t'})
   (ba : ∀ v₀ e t g h' t' news' tk' its' n' ps', OutAdd v pv nv ps ps' (aE v₀) → Fr h₀ L g m → RaisedS base g (env :: outer) e (.type "AssertionError") t [.str (errM v₀) tk'] news' h' → g.UpToSlots h' → Kept l news news' → Box w news' x l d tl its' n' ps' → E (.ref e) {s with heap := h', toks := t'}) :
   wpAny (model pg w) A (call (.ref 181) [.ref x, nv, v] [(Str.ofString "the_note", pv)]) Q E s := by
  replace S := S.less (e := 20) (by decide)
  exact add_anyP S B hv hn hpv hs (fun g hp nm tn e1 e2 h' t' news' its' n' u tu F N K B fu => ok _ _ _ _ _ _ (.inr (.inr ⟨g, .inr (.inr ⟨hp, .inr (.inr ⟨_, _, _, _, e1, e2, fu, rfl, rfl⟩)⟩)⟩)) F N K B)
    (fun b e t g' h' t' news' tk' F R U sub => bv _ _ _ _ _ _ _ _ _ _ (.inl ⟨b, rfl, rfl⟩) F R U (fun q hq _ => sub q hq) (B.mono sub))
    (fun b b2 e t g' h' t' news' tk' F R U sub => ba _ _ _ _ _ _ _ _ _ _ _ (.inr (.inl ⟨b, b2, rfl, rfl⟩)) F R U (fun q hq _ => sub q hq) (B.mono sub))
    (fun g b e t g' h' t' news' tk' F R U sub => bv _ _ _ _ _ _ _ _ _ _ (.inr (.inr ⟨g, .inl ⟨b, rfl, rfl⟩⟩)) F R U (fun q hq _ => sub q hq) (B.mono sub))
    (fun g b b2 e t g' h' t' news' tk' F R U sub => ba _ _ _ _ _ _ _ _ _ _ _ (.inr (.inr ⟨g, .inr (.inl ⟨b, b2, rfl, rfl⟩)⟩)) F R U (fun q hq _ => sub q hq) (B.mono sub))
    (fun g hp b e t g' h' t' news' tk' F R U sub => bv _ _ _ _ _ _ _ _ _ _ (.inr (.inr ⟨g, .inr (.inr ⟨hp, .inl ⟨b, rfl, rfl⟩⟩)⟩)) F R U (fun q hq _ => sub q hq) (B.mono sub))
    (fun g hp b e t g' h' t' news' tk' F R U sub => ba _ _ _ _ _ _ _ _ _ _ _ (.inr (.inr ⟨g, .inr (.inr ⟨hp, .inr (.inl ⟨b, rfl, rfl⟩)⟩)⟩)) F R U (fun q hq _ => sub q hq) (B.mono sub))
end
end
section
theorem kw64 : True := by
  w_top off
  trivial
theorem kw63 : True := by
  k_with "subscriptTail Name Name ref int" => (fail_if_success have := @offH41); (refine' which_pick ?Nw109 ?hlw109 ?hzw109 ?_; (case Nw109 => k_asm); (case hlw109 => k_mem); (case hzw109 => with_reducible assumption); intro _ _)
  k_with "eval Name" => (fail_if_success have := @offH41); (k_dflt (refine' nameX_C ?Nw110 ?cw110 ?mw110 ?dw110 ?_ ?aw110 ?bw110; (case aw110 => rfl); (case bw110 => rfl); (case Nw110 => k_asm); (case cw110 => rfl); (case mw110 => k_mem); (case dw110 => with_reducible assumption); k_whole))
  k_with "execs cons" => (fail_if_success have := @offH41); ((with_reducible show wpAny _ _ (execs (Stmt.If (Expr.Compare (Expr.Name (Str.ofString "kind") _) [CmpOp.Eq] _ _) _ _ _ :: _) _) _ _ _); refine hold_intro ?_)
  trivial
section
variable {w : World} {A A₀ : Around} {E : Value → Shared → Prop} {s : Shared} {h₀ : Heap} {env : Env} {L r : Addr} {m mg mb : Str → Option Value} {news : List (Addr × Obj)}
   {p : Program} {loose : List Str} {mean : ExcName → Option Value} {Q : Value → Shared → Prop} {kind home place value extra : Int} {sg : Str} {th tk tp tv te ts : Tok}
theorem due_head (S : Sit w A A₀ h₀ h₀ env [] L m p loose mean mg mb news s.heap 61) (hsg : SignOk sg) (hp : 0 ≤ place ∧ place < 8)
   (h : ∀ g L1 o h1 t1 m1 news1 tw tm, (hd.heap_39 w.params).In g → Top p loose mean mg mb g → Below A h₀ [env] g → Fr g L1 h1 m1 → News g L1 h1 news1 → (∀ q ∈ news, q ∈ news1) → (L1 + 1, o) ∈ news1 → o.data = .cell (some (.int place tp)) → (∀ q ∈ news, q.1 < L1) →
      m1 (Str.ofString "rows") = some (.ref r) → m1 (Str.ofString "home") = some (.int home th) → m1 (Str.ofString "kind") = some (.int kind tk) → m1 (Str.ofString "value") = some (.int value tv) → m1 (Str.ofString "extra") = some (.int extra te) → m1 (Str.ofString "sign") = some (.str sg ts) → m1 (Str.ofString "which") = some (.int (whichP place) tw) → m1 (Str.ofString "mark") = some (.str (markS sg) tm) →
      ∀ Q' E', (∀ L' m' h' t' news' v, Fr g L' h' m' → News g L' h' news' → (Fr h₀ L h' m → News h₀ L h' news' → Q v {s with heap := h', toks := t'}) → Q' (.ret v) {s with heap := h', toks := t'}) →
      wpAny (model pg w) (A.deeper (dueEnv L1)) (execs (dueBody.drop 2) (dueEnv L1)) Q' E' {s with heap := h1, toks := t1}) :
   wpAny (model pg w) A (call (.ref 200) [.ref r, .int home th, .int kind tk, .int place tp, .int value tv, .int extra te, .str sg ts]) Q E s := by
  obtain ⟨KX, T, B', F, N, hA, hf, hke, hroom, hh⟩ := S
  have hsl : sg.length = 1 := sign_len hsg
  have hsl2 : sg.length ≤ 1000 := by omega
  refine wpAny_call ?_
  by_cases hs : sg = Str.ofString "\t"
  · subst hs
    rw [markS_tab] at h
    rw [← whichI hp] at h
    k_enter
    k_steps
    refine hold_elim ?_
    rename News _ _ _ _ => N9
    rename Fr _ _ _ _ => F9
    rename (Obj.data _ = _) => d9
    refine h _ _ _ _ _ _ _ _ _ (by assumption) (by assumption) (by assumption) F9 N9 (fun q hq => .tail _ (.tail _ hq)) (.tail _ (.head _)) d9 (by assumption) rfl rfl rfl rfl rfl rfl rfl rfl _ _ ?_
    intro L2 m2 h2 t2 news2 v F2 N2 k
    exact leaveK_plain F2 N2 k
  · have hs2 : (sg == Str.ofString "\t") = false := beq_eq_false_iff_ne.mpr hs
    rw [markS_else hsg hs] at h
    rw [← whichI hp] at h
    k_enter
    k_steps
    refine hold_elim ?_
    rename News _ _ _ _ => N9
    rename Fr _ _ _ _ => F9
    rename (Obj.data _ = _) => d9
    refine h _ _ _ _ _ _ _ _ _ (by assumption) (by assumption) (by assumption) F9 N9 (fun q hq => .tail _ (.tail _ hq)) (.tail _ (.head _)) d9 (by assumption) rfl rfl rfl rfl rfl rfl rfl rfl _ _ ?_
    intro L2 m2 h2 t2 news2 v F2 N2 k
    exact leaveK_plain F2 N2 k
end
theorem offH41 : True := trivial
end
section
theorem kw67 : True := by
  w_top off
  trivial
section
theorem kw65 : True := by
  k_with "subscriptTail Name Constant ref int" => (fail_if_success have := @offH42); (refine' item_at ?Nw112 ?hlw112 ?hvw112 ?h0w112 ?hzw112 ?_; (case Nw112 => k_asm); (case hlw112 => k_mem); (case hvw112 => rfl); (case h0w112 => decide); (case hzw112 => decide))
  k_with "inplaceOp Add str str" => (fail_if_success have := @offH42); (refine SBL.iadd (hsz := len_two (by with_reducible assumption) (by with_reducible first | assumption | exact ofL1_len | exact rowx_len)) ?_; intro _ _)
  k_with "getItem ref int" => (fail_if_success have := @offH42); (refine' row_itemN ?Nw114 ?Rw114 ?hzw114 ?_; (case Nw114 => k_asm); (case Rw114 => walk_at "row"); (case hzw114 => with_reducible assumption); intro _)
  k_with "setItem ref int" => (fail_if_success have := @offH42); ((with_reducible show wpAny _ _ (setItem (Value.ref _) (Value.int _ _) (Value.str _ _)) _ _ _); refine' row_setN ?Fw115 ?Nw115 ?Rw115 ?hzw115 ?_; (case Fw115 => k_asm); (case Nw115 => k_asm); (case Rw115 => walk_at "row"); (case hzw115 => with_reducible assumption); intro _ _ _ _ _ _)
  k_with "row" => (fail_if_success have := @offH42); first | with_reducible assumption | exact RowAt.mono (by with_reducible assumption) (fun q hq => .tail _ hq) | exact RowAt.mono (by with_reducible assumption) (fun q hq => .tail _ (.tail _ hq))
  k_with "subscriptTail Name Name ref int" => (fail_if_success have := @offH42); (refine' mark_pick ?Nw117 ?hlw117 ?hzw117 ?hsgw117 ?_; (case Nw117 => k_asm); (case hlw117 => k_mem); (case hzw117 => with_reducible assumption); (case hsgw117 => with_reducible assumption); intro _)
  trivial
section
variable {w : World} {A A₀ : Around} {E : Value → Shared → Prop} {s : Shared} {h₀ g : Heap} {env : Env} {L L1 r r0 r1 r2 rh : Addr} {m mg mb : Str → Option Value} {news : List (Addr × Obj)}
   {p : Program} {loose : List Str} {mean : ExcName → Option Value} {Q : Flow → Shared → Prop} {rk : Nat} {R : List Str} {home place value extra : Int} {sg : Str} {th tk tp tv te ts tw tm tf : Tok} {o : Obj} {rits : Array Value} {D : Addr} {kind : Int}
theorem due5 (KX : (hd.heap_39 w.params).In g) (T : Top p loose mean mg mb g) (B1 : Below A h₀ [env] g) (F : Fr g L1 s.heap m) (N : News g L1 s.heap news)
   (hf : env.frame = some L) (hke : env.scope.kind = .function) (hroom : A.depth + 60 < recursionLimit) (hh : A.handled = none)
   (hr : (r, listOf #[.ref r0, .ref r1, .ref r2] rk) ∈ news) (hR : RowAt news r0 R) (hv : 0 ≤ value ∧ value < 8) (hsg : SignOk sg) (hw : whichP place < 5) (hx : (R.getD (whichP place) default).length ≤ 2000)
   (m1 : m (Str.ofString "rows") = some (.ref r)) (m2 : m (Str.ofString "kind") = some (.int 5 tk)) (m3 : m (Str.ofString "value") = some (.int value tv)) (m4 : m (Str.ofString "which") = some (.int (whichP place) tw)) (m5 : m (Str.ofString "mark") = some (.str (markS sg) tm))
   (h : ∀ L' m' h' t' news' tw, Fr g L' h' m' → News g L' h' news' → Kept r0 news news' → RowAt news' r0 (R.set (whichP place) (R.getD (whichP place) default ++ ofL [markT sg value])) → Q (.ret (.str (Str.ofString "") tw)) {s with heap := h', toks := t'}) :
   wpAny (model pg w) (A.deeper (dueEnv L1)) (execs (dueBody.drop 2) (dueEnv L1)) Q E s := by
  dsimp only [dueEnv]
  conv in List.drop 2 dueBody => whnf
  conv in (occs := *) dueScope => all_goals whnf
  try dsimp only
  rw [← overA_eq (l := [(Str.ofString "rows", .ref r), (Str.ofString "kind", .int 5 tk), (Str.ofString "value", .int value tv), (Str.ofString "which", .int (whichP place) tw), (Str.ofString "mark", .str (markS sg) tm)]) (M := m) (by simp only [List.forall_mem_cons]; exact ⟨m1, m2, m3, m4, m5, fun _ h => nomatch h⟩)] at F
  simp only [overA] at F
  k_steps
  dsimp only
  rename Kept r0 _ _ => K
  exact h _ _ _ _ _ _ (by assumption) (by assumption) (fun q hq hne => K q (.tail _ hq) hne) (by assumption)
end
end
section
theorem kw66 : True := by
  k_with "subscriptTail Name Constant ref int" => (fail_if_success have := @offH42); (refine' item_at ?Nw118 ?hlw118 ?hvw118 ?h0w118 ?hzw118 ?_; (case Nw118 => k_asm); (case hlw118 => k_mem); (case hvw118 => rfl); (case h0w118 => decide); (case hzw118 => decide))
  k_with "inplaceOp Add str str" => (fail_if_success have := @offH42); (refine SBL.iadd (hsz := len_two (by with_reducible assumption) (by with_reducible first | assumption | exact ofL1_len | exact rowx_len)) ?_; intro _ _)
  k_with "getItem ref int" => (fail_if_success have := @offH42); (refine' row_itemN ?Nw120 ?Rw120 ?hzw120 ?_; (case Nw120 => k_asm); (case Rw120 => walk_at "row"); (case hzw120 => with_reducible assumption); intro _)
  k_with "setItem ref int" => (fail_if_success have := @offH42); ((with_reducible show wpAny _ _ (setItem (Value.ref _) (Value.int _ _) (Value.str _ _)) _ _ _); refine' row_setN ?Fw121 ?Nw121 ?Rw121 ?hzw121 ?_; (case Fw121 => k_asm); (case Nw121 => k_asm); (case Rw121 => walk_at "row"); (case hzw121 => with_reducible assumption); intro _ _ _ _ _ _)
  k_with "row" => (fail_if_success have := @offH42); first | with_reducible assumption | exact RowAt.mono (by with_reducible assumption) (fun q hq => .tail _ hq) | exact RowAt.mono (by with_reducible assumption) (fun q hq => .tail _ (.tail _ hq))
  k_with "subscriptTail Name Name ref int" => (fail_if_success have := @offH42); (refine' item_at ?Nw123 ?hlw123 ?hvw123 ?h0w123 ?hzw123 ?_; (case hvw123 => with_reducible assumption); (case Nw123 => k_asm); (case hlw123 => k_mem); (case h0w123 => with_reducible assumption); (case hzw123 => with_reducible assumption))
  k_with "subscriptTail Subscript Name Name Constant ref int" => (fail_if_success have := @offH42); (first | refine' row_pick4 ?Nw124 ?Rw124 ?_ | refine' row_pick0 ?Nw124 ?Rw124 ?_); (case Nw124 => k_asm); (case Rw124 => walk_at "row"); intro _
  k_with "call builtin:str.join" => (fail_if_success have := @offH42); (refine' row_join ?Nw125 ?Rw125 ?hxw125 ?hww125 ?_; (case Nw125 => k_asm); (case Rw125 => walk_at "row"); (case hxw125 => decide +kernel); (case hww125 => with_reducible assumption); intro _ _)
  k_with "call builtin:str.strip" => (fail_if_success have := @offH42); ((refine SCL.stripChars (hsz := ?hszw126) ?_); (case hszw126 => rw [sizeLine_eq]; omega); intro _ _ _)
  trivial
section
variable {w : World} {A A₀ : Around} {E : Value → Shared → Prop} {s : Shared} {h₀ g : Heap} {env : Env} {L L1 r r0 r1 r2 rh : Addr} {m mg mb : Str → Option Value} {news : List (Addr × Obj)}
   {p : Program} {loose : List Str} {mean : ExcName → Option Value} {Q : Flow → Shared → Prop} {rk : Nat} {R : List Str} {home place value extra : Int} {sg : Str} {th tk tp tv te ts tw tm tf : Tok} {o : Obj} {rits : Array Value} {D : Addr} {kind : Int}
theorem due7 (KX : (hd.heap_39 w.params).In g) (T : Top p loose mean mg mb g) (B1 : Below A h₀ [env] g) (F : Fr g L1 s.heap m) (N : News g L1 s.heap news)
   (hf : env.frame = some L) (hke : env.scope.kind = .function) (hroom : A.depth + 60 < recursionLimit) (hh : A.handled = none)
   (hr : (r, listOf rits rk) ∈ news) (hrh : rits.toList[home.toNat]? = some (.ref rh)) (h0 : 0 ≤ home) (h1 : home < 1000) (hR : RowAt news rh R) (hsum : (R.map (·.length)).sum ≤ 10000) (hwl : (Txt.join (Str.ofString "") R).length ≤ 10000) (hx0 : (R.getD 0 default).length ≤ 2000)
   (m1 : m (Str.ofString "rows") = some (.ref r)) (m2 : m (Str.ofString "home") = some (.int home th)) (m3 : m (Str.ofString "kind") = some (.int 7 tk))
   (no : ∀ L' m' h' t' news' tw, ¬ (R.getD 4 default = Str.ofString "" ∧ Txt.stripChars (Txt.join (Str.ofString "") R) (Str.ofString "x") = Str.ofString "") → Fr g L' h' m' → News g L' h' news' → (∀ q ∈ news, q ∈ news') → Q (.ret (.str (Str.ofString "refused") tw)) {s with heap := h', toks := t'})
   (ok : ∀ L' m' h' t' news' B k t1 t2, R.getD 4 default = Str.ofString "" → Txt.stripChars (Txt.join (Str.ofString "") R) (Str.ofString "x") = Str.ofString "" → Fr g L' h' m' → News g L' h' news' → (∀ q ∈ news, q ∈ news') → (B, listOf #[.int ((Txt.join (Str.ofString "") R).length : Int) t1, .int (((Txt.join (Str.ofString "") R).length : Int) - ((R.getD 0 default).length : Int) + 1) t2] k) ∈ news' → (∀ q ∈ news, q.1 ≠ B) → Q (.ret (.ref B)) {s with heap := h', toks := t'}) :
   wpAny (model pg w) (A.deeper (dueEnv L1)) (execs (dueBody.drop 2) (dueEnv L1)) Q E s := by
  dsimp only [dueEnv]
  conv in List.drop 2 dueBody => whnf
  conv in (occs := *) dueScope => all_goals whnf
  try dsimp only
  rw [← overA_eq (l := [(Str.ofString "rows", .ref r), (Str.ofString "home", .int home th), (Str.ofString "kind", .int 7 tk)]) (M := m) (by simp only [List.forall_mem_cons]; exact ⟨m1, m2, m3, fun _ h => nomatch h⟩)] at F
  simp only [overA] at F
  k_steps
  · dsimp only
    exact no _ _ _ _ _ _ (fun h => bne_abs (by assumption) h.1) (by assumption) (by assumption) (fun _ h => h)
  · dsimp only
    exact no _ _ _ _ _ _ (fun h => bne_abs (by assumption) h.2) (by assumption) (by assumption) (fun _ h => h)
  · dsimp only
    exact ok _ _ _ _ _ _ _ _ _ (bne_eq (by assumption)) (bne_eq (by assumption)) (by assumption) (by assumption) (fun _ h => .tail _ h) (.head _) (fun q hq => Nat.ne_of_lt ((by assumption : ∀ p ∈ news, p.1 < _) q hq))
end
end
theorem offH42 : True := trivial
end
section
theorem kw69 : True := by
  w_top off
  trivial
section
theorem kw68 : True := by
  k_with "subscriptTail Name Constant ref int" => (fail_if_success have := @offH43); (refine' item_at ?Nw127 ?hlw127 ?hvw127 ?h0w127 ?hzw127 ?_; (case Nw127 => k_asm); (case hlw127 => k_mem); (case hvw127 => rfl); (case h0w127 => decide); (case hzw127 => decide))
  k_with "inplaceOp Add str str" => (fail_if_success have := @offH43); (refine SBL.iadd (hsz := len_two (by with_reducible assumption) (by with_reducible first | assumption | exact ofL1_len | exact rowx_len)) ?_; intro _ _)
  k_with "getItem ref int" => (fail_if_success have := @offH43); (refine' row_itemN ?Nw129 ?Rw129 ?hzw129 ?_; (case Nw129 => k_asm); (case Rw129 => walk_at "row"); (case hzw129 => with_reducible assumption); intro _)
  k_with "setItem ref int" => (fail_if_success have := @offH43); ((with_reducible show wpAny _ _ (setItem (Value.ref _) (Value.int _ _) (Value.str _ _)) _ _ _); refine' row_setN ?Fw130 ?Nw130 ?Rw130 ?hzw130 ?_; (case Fw130 => k_asm); (case Nw130 => k_asm); (case Rw130 => walk_at "row"); (case hzw130 => with_reducible assumption); intro _ _ _ _ _ _)
  k_with "row" => (fail_if_success have := @offH43); first | with_reducible assumption | exact RowAt.mono (by with_reducible assumption) (fun q hq => .tail _ hq) | exact RowAt.mono (by with_reducible assumption) (fun q hq => .tail _ (.tail _ hq))
  k_with "pyIter ref" => (fail_if_success have := @offH43); refine hold_intro ?_
  k_with "setItem ref int" => (fail_if_success have := @offH43); ((with_reducible show wpAny _ _ (setItem (Value.ref _) (Value.int _ _) (Value.ref _)) _ _ _); refine hold_intro ?_)
  trivial
section
variable {w : World} {A A₀ : Around} {E : Value → Shared → Prop} {s : Shared} {h₀ g : Heap} {env : Env} {L L1 r r0 r1 r2 rh : Addr} {m mg mb : Str → Option Value} {news : List (Addr × Obj)}
   {p : Program} {loose : List Str} {mean : ExcName → Option Value} {Q : Flow → Shared → Prop} {rk : Nat} {R : List Str} {home place value extra : Int} {sg : Str} {th tk tp tv te ts tw tm tf : Tok} {o : Obj} {rits : Array Value} {D : Addr} {kind : Int}
theorem due6 (KX : (hd.heap_39 w.params).In g) (T : Top p loose mean mg mb g) (B1 : Below A h₀ [env] g) (F : Fr g L1 s.heap m) (N : News g L1 s.heap news)
   (hf : env.frame = some L) (hke : env.scope.kind = .function) (hroom : A.depth + 60 < recursionLimit) (hh : A.handled = none)
   {ls : List (List Nat)} (hr : (r, listOf #[.ref r0, .ref r1, .ref r2] rk) ∈ news) (hR : RowAt news r0 (ls.map ofL)) (hls : ∀ l ∈ ls, l.length ≤ 2000) (hc : (L1 + 1, o) ∈ news) (hd : o.data = .cell (some (.int place tp)))
   (m1 : m (Str.ofString "rows") = some (.ref r)) (m2 : m (Str.ofString "kind") = some (.int 6 tk))
   (h : ∀ L' m' h' t' news' D k tw, Fr g L' h' m' → News g L' h' news' → Kept r news news' → (r, listOf #[.ref D, .ref r1, .ref r2] k) ∈ news' → (∀ q ∈ news, q.1 ≠ D) → RowAt news' D (ls.map (turned place)) → Q (.ret (.str (Str.ofString "") tw)) {s with heap := h', toks := t'}) :
   wpAny (model pg w) (A.deeper (dueEnv L1)) (execs (dueBody.drop 2) (dueEnv L1)) Q E s := by
  dsimp only [dueEnv]
  conv in List.drop 2 dueBody => whnf
  conv in (occs := *) dueScope => all_goals whnf
  try dsimp only
  rw [← overA_eq (l := [(Str.ofString "rows", .ref r), (Str.ofString "kind", .int 6 tk)]) (M := m) (by simp only [List.forall_mem_cons]; exact ⟨m1, m2, fun _ h => nomatch h⟩)] at F
  simp only [overA] at F
  obtain ⟨h5, its, ik, him, hi⟩ := hR
  have hsz : its.size = 5 := by rw [← Array.length_toList, StrsAre.len_eq hi]; exact h5
  k_steps
  refine hold_elim ?_
  refine' ListComp_own (fun i zs n => StrsAre zs ((ls.take i).map (turned place))) ?F ?hclos ?hcell ?hkind ?hnames ?hx ?hsrc ?hfs
  case F => k_asm
  case hclos => with_unfolding_all rfl
  case hcell => decide
  case hkind => rfl
  case hnames => decide
  case hx => rfl
  case hfs => intro _; with_unfolding_all rfl
  case hsrc =>
    k_steps
    refine hold_elim ?_
    refine' src_list (its := its) (n := ik) ?hh2 ?F2 ?N2 him ?hs2 ?Q2
    case hh2 => exact hh
    case F2 => k_asm
    case N2 => k_asm
    case hs2 => rw [sizeLine_eq, hsz]; decide
    case Q2 =>
      intro I fp wr P St h₈ O hP
      refine ⟨I, fp, wr, _, P, St, h₈, _, _, rfl, rfl, O, .nil, ?_, ?_⟩
      · intro C i' v zs n₁ n₂ h tk m₃ E' hi' hPv hJ hz sub sub2 F N hn hm hC
        have hv := hP _ _ hPv
        rw [← Array.getElem?_toList] at hv
        obtain ⟨y, ty, rfl, hy⟩ := StrsAre.item hi _ _ hv
        rw [List.getElem?_map] at hy
        obtain ⟨l, hl, rfl⟩ := Option.map_eq_some_iff.mp hy
        refine rev_elt rfl rfl rfl rfl F N (sub2 _ (sub _ hc)) hd (hls l (List.mem_of_getElem? hl)) hn hm ?_
        intro h' tk t' F' N'
        refine ⟨_, _, [], rfl, F', N', (fun q hq => nomatch hq), ?_⟩
        show StrsAre (zs ++ [_]) ((ls.take (i' + 1)).map _)
        rw [List.take_add_one, hl, List.map_append]
        exact strs_snoc hJ _ _
      · intro D zs k n₁ h' tk F' N' ne sub hJ hz
        have hr' := sub _ hr
        k_steps
        refine hold_elim ?_
        refine outer_set (by k_asm) (by k_asm) (.tail _ hr') ?_
        intro h' n' k' F' N' K' hm'
        k_steps
        dsimp only
        have hl5 : ls.length = 5 := by rw [List.length_map] at h5; exact h5
        rw [hsz, List.take_of_length_le (by omega)] at hJ
        exact h _ _ _ _ _ D k' _ F' N' (fun q hq hn => K' q (.tail _ (sub q hq)) hn) hm' (fun q hq => ne q (sub q hq)) ⟨by rw [List.length_map]; exact hl5, _, k, K' _ (.head _) (fun e => ne _ hr' e.symm), hJ⟩
end
end
theorem offH43 : True := trivial
end
section
theorem kw71 : True := by
  w_top off
  trivial
def mildP (sg : Str) : Str := if sg = Str.ofString "\t" then Str.ofString "" else Str.ofString "ValueError Control characters not allowed in headers"
theorem mild_join {M : Model} {A : Around} {E : Value → Shared → Prop} {Q : Value → Shared → Prop} {s : Shared} {x : Sem Value} {y : Str} (h1 : wpAny M A x (fun v s' => ∃ t tk, v = .str y t ∧ s' = { s with toks := tk }) E s) (h2 : ∀ t tk, Q (.str y t) { s with toks := tk }) : wpAny M A x Q E s :=
  wpAny_mono h1 (fun v s' ⟨t, tk, e1, e2⟩ => e1 ▸ e2 ▸ h2 t tk) (fun _ _ h => h)
theorem faults_any {sg : Str} (hs : SignOk sg) : faultsL sg = [Str.ofString "", Str.ofString "", Str.ofString "", Str.ofString "", mildP sg, (Str.ofString "AssertionError Header names/values must be of type str (got 7)"), (Str.ofString "AssertionError Header names/values must be of type str (got None)"), mildP sg] := by
  by_cases h : sg = Str.ofString "\t"
  · subst h
    exact faults_tab
  · rw [faults_else hs h]
    unfold mildP
    rw [if_neg h]
section
theorem kw70 : True := by
  k_with "eval IfExp" => (fail_if_success have := @offH44); ((with_reducible show wpAny _ _ (eval (Expr.IfExp (Expr.Compare (Expr.Name (Str.ofString "sign") _) _ _ _) _ _ _) _) _ _ _); refine hold_intro ?_)
  k_with "ite" => (fail_if_success have := @offH44); first | refine ite_ne1 (by with_reducible assumption) ?_ | refine ite_ne2 (by with_reducible assumption) ?_
  k_with "subscriptTail Name Name ref int" => (fail_if_success have := @offH44); (refine' fault_pick ?Nw136 ?hlw136 ?hzw136 ?hXw136 ?_; (case Nw136 => k_asm); (case hlw136 => k_mem); (case hzw136 => with_reducible assumption); (case hXw136 => first | exact xP_true | exact xP_false); intro _)
  k_with "eval Name" => (fail_if_success have := @offH44); (k_dflt (refine' nameX_C ?Nw137 ?cw137 ?mw137 ?dw137 ?_ ?aw137 ?bw137; (case aw137 => rfl); (case bw137 => rfl); (case Nw137 => k_asm); (case cw137 => rfl); (case mw137 => k_mem); (case dw137 => with_reducible assumption); k_whole))
  k_with "execs cons" => (fail_if_success have := @offH44); ((with_reducible show wpAny _ _ (execs (Stmt.If (Expr.BoolOp BoolOp.And [Expr.Compare (Expr.Name (Str.ofString "kind") _) [CmpOp.Gt] _ _, _, _] _) _ _ _ :: _) _) _ _ _); refine hold_intro ?_)
  trivial
section
variable {w : World} {A A₀ : Around} {E : Value → Shared → Prop} {s : Shared} {h₀ g : Heap} {env : Env} {L L1 r r0 r1 r2 rh : Addr} {m mg mb : Str → Option Value} {news : List (Addr × Obj)}
   {p : Program} {loose : List Str} {mean : ExcName → Option Value} {Q : Flow → Shared → Prop} {rk : Nat} {R : List Str} {home place value extra : Int} {sg : Str} {th tk tp tv te ts tw tm tf : Tok} {o : Obj} {rits : Array Value} {D : Addr} {kind : Int}
theorem due_mid (KX : (hd.heap_39 w.params).In g) (T : Top p loose mean mg mb g) (B1 : Below A h₀ [env] g) (F : Fr g L1 s.heap m) (N : News g L1 s.heap news)
   (hf : env.frame = some L) (hke : env.scope.kind = .function) (hroom : A.depth + 60 < recursionLimit) (hh : A.handled = none)
   (hc : (L1 + 1, o) ∈ news) (hd : o.data = .cell (some (.int place tp))) (hsg : SignOk sg) (hp : 0 ≤ place ∧ place < 8) (hk0 : 0 ≤ kind) (hk5 : kind < 5)
   (m1 : m (Str.ofString "rows") = some (.ref r)) (m2 : m (Str.ofString "home") = some (.int home th)) (m3 : m (Str.ofString "kind") = some (.int kind tk)) (m4 : m (Str.ofString "value") = some (.int value tv)) (m5 : m (Str.ofString "extra") = some (.int extra te)) (m6 : m (Str.ofString "sign") = some (.str sg ts)) (m7 : m (Str.ofString "which") = some (.int (whichP place) tw))
   (h : ∀ h1 t1 m1 news1 D tf, Fr g L1 h1 m1 → News g L1 h1 news1 → (∀ q ∈ news, q ∈ news1) → FaultsAt news1 sg D → (∀ q ∈ news, q.1 ≠ D) → m1 (Str.ofString "rows") = some (.ref r) → m1 (Str.ofString "home") = some (.int home th) → m1 (Str.ofString "kind") = some (.int kind tk) → m1 (Str.ofString "value") = some (.int value tv) → m1 (Str.ofString "extra") = some (.int extra te) → m1 (Str.ofString "which") = some (.int (whichP place) tw) → m1 (Str.ofString "faults") = some (.ref D) → m1 (Str.ofString "fault") = some (.str (faultP (decide (2 < kind)) place) tf) →
      wpAny (model pg w) (A.deeper (dueEnv L1)) (execs (dueBody.drop 10) (dueEnv L1)) Q E {s with heap := h1, toks := t1}) :
   wpAny (model pg w) (A.deeper (dueEnv L1)) (execs (dueBody.drop 2) (dueEnv L1)) Q E s := by
  dsimp only [dueEnv]
  conv in List.drop 2 dueBody => whnf
  conv in (occs := *) dueScope => all_goals whnf
  try dsimp only
  rw [← overA_eq (l := [(Str.ofString "rows", .ref r), (Str.ofString "home", .int home th), (Str.ofString "kind", .int kind tk), (Str.ofString "value", .int value tv), (Str.ofString "extra", .int extra te), (Str.ofString "sign", .str sg ts), (Str.ofString "which", .int (whichP place) tw)]) (M := m) (by simp only [List.forall_mem_cons]; exact ⟨m1, m2, m3, m4, m5, m6, m7, fun _ h => nomatch h⟩)] at F
  simp only [overA] at F
  have hsl : sg.length = 1 := sign_len hsg
  have hsl2 : sg.length ≤ 1000 := hsl ▸ (by decide)
  have n5 : kind ≠ 5 := fun e => absurd (e ▸ hk5) (by decide)
  have n6 : kind ≠ 6 := fun e => absurd (e ▸ hk5) (by decide)
  have n7 : kind ≠ 7 := fun e => absurd (e ▸ hk5) (by decide)
  k_steps
  refine hold_elim ?_
  refine mild_join (y := mildP sg) ?hA ?hB
  case hA =>
    with_reducible refine IfExp_ ?_
    by_cases hs : sg = Str.ofString "\t"
    · subst hs
      k_steps
    · have hs2 : (sg == Str.ofString "\t") = false := beq_eq_false_iff_ne.mpr hs
      rw [show mildP sg = _ from if_neg hs]
      k_steps
  intro tM kM
  dsimp only
  k_steps
  all_goals refine hold_elim ?_
  all_goals rename News _ _ _ _ => N9
  all_goals rename Fr _ _ _ _ => F9
  all_goals exact h _ _ _ _ _ _ F9 N9 (fun q hq => .tail _ (.tail _ hq)) ⟨_, _, .tail _ (.head _), by rw [faults_any hsg]; exact .cons _ _ (.cons _ _ (.cons _ _ (.cons _ _ (.cons _ _ (.cons _ _ (.cons _ _ (.cons _ _ .nil)))))))⟩ (fun q hq => Nat.ne_of_lt ((by assumption : ∀ p ∈ news, p.1 < _) q hq)) rfl rfl rfl rfl rfl rfl rfl (by first | (rw [decide_eq_true (by assumption : 2 < kind)]; rfl) | (rw [decide_eq_false (by assumption : ¬ 2 < kind)]; rfl))
end
end
theorem offH44 : True := trivial
end
section
theorem kw74 : True := by
  w_top off
  trivial
section
theorem kw72 : True := by
  k_with "subscriptTail Name Constant ref int" => (fail_if_success have := @offH45); (refine' item_at ?Nw139 ?hlw139 ?hvw139 ?h0w139 ?hzw139 ?_; (case Nw139 => k_asm); (case hlw139 => k_mem); (case hvw139 => rfl); (case h0w139 => decide); (case hzw139 => decide))
  k_with "inplaceOp Add str str" => (fail_if_success have := @offH45); (refine SBL.iadd (hsz := len_two (by with_reducible assumption) (by with_reducible first | assumption | exact ofL1_len | exact rowx_len)) ?_; intro _ _)
  k_with "getItem ref int" => (fail_if_success have := @offH45); (refine' row_itemN ?Nw141 ?Rw141 ?hzw141 ?_; (case Nw141 => k_asm); (case Rw141 => walk_at "row"); (case hzw141 => with_reducible assumption); intro _)
  k_with "setItem ref int" => (fail_if_success have := @offH45); ((with_reducible show wpAny _ _ (setItem (Value.ref _) (Value.int _ _) (Value.str _ _)) _ _ _); refine' row_setN ?Fw142 ?Nw142 ?Rw142 ?hzw142 ?_; (case Fw142 => k_asm); (case Nw142 => k_asm); (case Rw142 => walk_at "row"); (case hzw142 => with_reducible assumption); intro _ _ _ _ _ _)
  k_with "row" => (fail_if_success have := @offH45); first | with_reducible assumption | exact RowAt.mono (by with_reducible assumption) (fun q hq => .tail _ hq) | exact RowAt.mono (by with_reducible assumption) (fun q hq => .tail _ (.tail _ hq))
  k_with "fa" => (fail_if_success have := @offH45); first | with_reducible assumption | exact FaultsAt.mono (by with_reducible assumption) (fun q hq => .tail _ hq) | exact FaultsAt.mono (by with_reducible assumption) (fun q hq => .tail _ (.tail _ hq))
  k_with "subscriptTail Name Name ref int" => (fail_if_success have := @offH45); (refine' item_at ?Nw145 ?hlw145 ?hvw145 ?h0w145 ?hzw145 ?_; (case hvw145 => with_reducible assumption); (case Nw145 => k_asm); (case hlw145 => k_mem); (case h0w145 => with_reducible assumption); (case hzw145 => with_reducible assumption))
  k_with "subscriptTail Name Name ref int" => (fail_if_success have := @offH45); (refine' faults_pick ?Nw146 ?hlw146 ?hzw146 ?_; (case Nw146 => k_asm); (case hlw146 => walk_at "fa"); (case hzw146 => with_reducible assumption); intro _)
  k_with "subscriptTail Subscript Name Name Name ref int" => (fail_if_success have := @offH45); (refine' row_pickN ?Nw147 ?Rw147 ?hzw147 ?_; (case Nw147 => k_asm); (case Rw147 => walk_at "row"); (case hzw147 => with_reducible assumption); intro _)
  trivial
section
variable {w : World} {A A₀ : Around} {E : Value → Shared → Prop} {s : Shared} {h₀ g : Heap} {env : Env} {L L1 r r0 r1 r2 rh : Addr} {m mg mb : Str → Option Value} {news : List (Addr × Obj)}
   {p : Program} {loose : List Str} {mean : ExcName → Option Value} {Q : Flow → Shared → Prop} {rk : Nat} {R : List Str} {home place value extra : Int} {sg : Str} {th tk tp tv te ts tw tm tf : Tok} {o : Obj} {rits : Array Value} {D : Addr} {kind : Int}
section
theorem due1 (KX : (hd.heap_39 w.params).In g) (T : Top p loose mean mg mb g) (B1 : Below A h₀ [env] g) (F : Fr g L1 s.heap m) (N : News g L1 s.heap news)
   (hf : env.frame = some L) (hke : env.scope.kind = .function) (hroom : A.depth + 60 < recursionLimit) (hh : A.handled = none)
   (hr : (r, listOf rits rk) ∈ news) (hrh : rits.toList[home.toNat]? = some (.ref rh)) (h0 : 0 ≤ home) (h1 : home < 1000) (hne : r ≠ rh) (hR : RowAt news rh R) (hD : FaultsAt news sg D) (hDr : D ≠ rh) (hv : 0 ≤ value ∧ value < 8) (he : 0 ≤ extra ∧ extra < 8) (hw : whichP place < 5) (hx : (R.getD (whichP place) default).length ≤ 2000) (hx2 : ((R.set (whichP place) (Str.ofString "")).getD (whichP place) default).length ≤ 2000)
   (m1 : m (Str.ofString "rows") = some (.ref r)) (m2 : m (Str.ofString "home") = some (.int home th)) (m3 : m (Str.ofString "kind") = some (.int 1 tk)) (m4 : m (Str.ofString "value") = some (.int value tv)) (m5 : m (Str.ofString "extra") = some (.int extra te)) (m6 : m (Str.ofString "which") = some (.int (whichP place) tw)) (m7 : m (Str.ofString "faults") = some (.ref D)) (m8 : m (Str.ofString "fault") = some (.str (faultP false place) tf))
   (h : ∀ L' m' h' t' news' R' a tw, Due1 (faultP false place) (whichP place) R R' a → Fr g L' h' m' → News g L' h' news' → Kept rh news news' → RowAt news' rh R' → Q (.ret (.str a tw)) {s with heap := h', toks := t'}) :
   wpAny (model pg w) (A.deeper (dueEnv L1)) (execs (dueBody.drop 10) (dueEnv L1)) Q E s := by
  dsimp only [dueEnv]
  conv in List.drop 10 dueBody => whnf
  conv in (occs := *) dueScope => all_goals whnf
  try dsimp only
  rw [← overA_eq (l := [(Str.ofString "rows", .ref r), (Str.ofString "home", .int home th), (Str.ofString "kind", .int 1 tk), (Str.ofString "value", .int value tv), (Str.ofString "extra", .int extra te), (Str.ofString "which", .int (whichP place) tw), (Str.ofString "faults", .ref D), (Str.ofString "fault", .str (faultP false place) tf)]) (M := m) (by simp only [List.forall_mem_cons]; exact ⟨m1, m2, m3, m4, m5, m6, m7, m8, fun _ h => nomatch h⟩)] at F
  simp only [overA] at F
  k_steps
  all_goals (try dsimp only)
  all_goals exact h _ _ _ _ _ _ _ _ (by first | exact .inl ⟨bne_ne (by assumption), rfl, rfl⟩ | exact .inr ⟨bne_eq (by assumption), rfl, rfl⟩) (by assumption) (by assumption) (by first | assumption | exact Kept.refl | exact kept_tr (by assumption) (by assumption) | exact (fun q hq _ => .tail _ hq) | exact (fun q hq hne => (by assumption : Kept rh (_ :: _) _) q (.tail _ hq) hne)) (by first | assumption | exact RowAt.mono (by assumption) (fun q hq => .tail _ hq))
end
section
theorem kw73 : True := by
  k_with "fa" => (fail_if_success have := @offH45); exact FaultsAt.kept (by with_reducible assumption) (by with_reducible assumption) (by with_reducible assumption)
  k_with "k_mem" => (fail_if_success have := @offH45); exact Kept.mem (by with_reducible assumption) (by with_reducible assumption) (by with_reducible assumption)
  trivial
theorem due0 (KX : (hd.heap_39 w.params).In g) (T : Top p loose mean mg mb g) (B1 : Below A h₀ [env] g) (F : Fr g L1 s.heap m) (N : News g L1 s.heap news)
   (hf : env.frame = some L) (hke : env.scope.kind = .function) (hroom : A.depth + 60 < recursionLimit) (hh : A.handled = none)
   (hr : (r, listOf rits rk) ∈ news) (hrh : rits.toList[home.toNat]? = some (.ref rh)) (h0 : 0 ≤ home) (h1 : home < 1000) (hne : r ≠ rh) (hR : RowAt news rh R) (hD : FaultsAt news sg D) (hDr : D ≠ rh) (hv : 0 ≤ value ∧ value < 8) (he : 0 ≤ extra ∧ extra < 8) (hw : whichP place < 5) (hx : (R.getD (whichP place) default).length ≤ 2000) (hx2 : ((R.set (whichP place) (Str.ofString "")).getD (whichP place) default).length ≤ 2000)
   (m1 : m (Str.ofString "rows") = some (.ref r)) (m2 : m (Str.ofString "home") = some (.int home th)) (m3 : m (Str.ofString "kind") = some (.int 0 tk)) (m4 : m (Str.ofString "value") = some (.int value tv)) (m5 : m (Str.ofString "extra") = some (.int extra te)) (m6 : m (Str.ofString "which") = some (.int (whichP place) tw)) (m7 : m (Str.ofString "faults") = some (.ref D)) (m8 : m (Str.ofString "fault") = some (.str (faultP false place) tf))
   (h : ∀ L' m' h' t' news' R' a tw, Due0 (faultP false place) (faultT sg value) (whichP place) R R' a → Fr g L' h' m' → News g L' h' news' → Kept rh news news' → RowAt news' rh R' → Q (.ret (.str a tw)) {s with heap := h', toks := t'}) :
   wpAny (model pg w) (A.deeper (dueEnv L1)) (execs (dueBody.drop 10) (dueEnv L1)) Q E s := by
  dsimp only [dueEnv]
  conv in List.drop 10 dueBody => whnf
  conv in (occs := *) dueScope => all_goals whnf
  try dsimp only
  rw [← overA_eq (l := [(Str.ofString "rows", .ref r), (Str.ofString "home", .int home th), (Str.ofString "kind", .int 0 tk), (Str.ofString "value", .int value tv), (Str.ofString "extra", .int extra te), (Str.ofString "which", .int (whichP place) tw), (Str.ofString "faults", .ref D), (Str.ofString "fault", .str (faultP false place) tf)]) (M := m) (by simp only [List.forall_mem_cons]; exact ⟨m1, m2, m3, m4, m5, m6, m7, m8, fun _ h => nomatch h⟩)] at F
  simp only [overA] at F
  k_steps
  all_goals (try dsimp only)
  all_goals exact h _ _ _ _ _ _ _ _ (by first | exact .inl ⟨bne_ne (by assumption), rfl, rfl⟩ | exact .inr (.inl ⟨bne_eq (by assumption), bne_ne (by assumption), rfl, rfl⟩) | exact .inr (.inr ⟨bne_eq (by assumption), bne_eq (by assumption), rfl, rfl⟩)) (by assumption) (by assumption) (by first | assumption | exact Kept.refl | exact kept_tr (by assumption) (by assumption) | exact (fun q hq _ => .tail _ hq) | exact (fun q hq hne => (by assumption : Kept rh (_ :: _) _) q (.tail _ hq) hne)) (by first | assumption | exact RowAt.mono (by assumption) (fun q hq => .tail _ hq))
end
end
end
theorem offH45 : True := trivial
end
section
theorem kw77 : True := by
  w_top off
  trivial
section
theorem kw75 : True := by
  k_with "subscriptTail Name Constant ref int" => (fail_if_success have := @offH46); (refine' item_at ?Nw150 ?hlw150 ?hvw150 ?h0w150 ?hzw150 ?_; (case Nw150 => k_asm); (case hlw150 => k_mem); (case hvw150 => rfl); (case h0w150 => decide); (case hzw150 => decide))
  k_with "inplaceOp Add str str" => (fail_if_success have := @offH46); (refine SBL.iadd (hsz := len_two (by with_reducible assumption) (by with_reducible first | assumption | exact ofL1_len | exact rowx_len)) ?_; intro _ _)
  k_with "getItem ref int" => (fail_if_success have := @offH46); (refine' row_itemN ?Nw152 ?Rw152 ?hzw152 ?_; (case Nw152 => k_asm); (case Rw152 => walk_at "row"); (case hzw152 => with_reducible assumption); intro _)
  k_with "setItem ref int" => (fail_if_success have := @offH46); ((with_reducible show wpAny _ _ (setItem (Value.ref _) (Value.int _ _) (Value.str _ _)) _ _ _); refine' row_setN ?Fw153 ?Nw153 ?Rw153 ?hzw153 ?_; (case Fw153 => k_asm); (case Nw153 => k_asm); (case Rw153 => walk_at "row"); (case hzw153 => with_reducible assumption); intro _ _ _ _ _ _)
  k_with "row" => (fail_if_success have := @offH46); first | with_reducible assumption | exact RowAt.mono (by with_reducible assumption) (fun q hq => .tail _ hq) | exact RowAt.mono (by with_reducible assumption) (fun q hq => .tail _ (.tail _ hq))
  k_with "fa" => (fail_if_success have := @offH46); first | with_reducible assumption | exact FaultsAt.mono (by with_reducible assumption) (fun q hq => .tail _ hq) | exact FaultsAt.mono (by with_reducible assumption) (fun q hq => .tail _ (.tail _ hq))
  k_with "subscriptTail Name Name ref int" => (fail_if_success have := @offH46); (refine' item_at ?Nw156 ?hlw156 ?hvw156 ?h0w156 ?hzw156 ?_; (case hvw156 => with_reducible assumption); (case Nw156 => k_asm); (case hlw156 => k_mem); (case h0w156 => with_reducible assumption); (case hzw156 => with_reducible assumption))
  k_with "subscriptTail Name Name ref int" => (fail_if_success have := @offH46); (refine' faults_pick ?Nw157 ?hlw157 ?hzw157 ?_; (case Nw157 => k_asm); (case hlw157 => walk_at "fa"); (case hzw157 => with_reducible assumption); intro _)
  k_with "subscriptTail Subscript Name Name Name ref int" => (fail_if_success have := @offH46); (refine' row_pickN ?Nw158 ?Rw158 ?hzw158 ?_; (case Nw158 => k_asm); (case Rw158 => walk_at "row"); (case hzw158 => with_reducible assumption); intro _)
  trivial
section
variable {w : World} {A A₀ : Around} {E : Value → Shared → Prop} {s : Shared} {h₀ g : Heap} {env : Env} {L L1 r r0 r1 r2 rh : Addr} {m mg mb : Str → Option Value} {news : List (Addr × Obj)}
   {p : Program} {loose : List Str} {mean : ExcName → Option Value} {Q : Flow → Shared → Prop} {rk : Nat} {R : List Str} {home place value extra : Int} {sg : Str} {th tk tp tv te ts tw tm tf : Tok} {o : Obj} {rits : Array Value} {D : Addr} {kind : Int}
section
theorem kw76 : True := by
  k_with "compareOp In str ref" => (fail_if_success have := @offH46); (refine' in_tuple_strs (ys := [Str.ofString "x", Str.ofString "o"]) ?htw159 ?hiw159 ?_; (case htw159 => exact News.isTup (by k_asm) (List.Mem.head _)); (case hiw159 => exact .cons _ _ (.cons _ _ .nil)))
  trivial
theorem due2 (KX : (hd.heap_39 w.params).In g) (T : Top p loose mean mg mb g) (B1 : Below A h₀ [env] g) (F : Fr g L1 s.heap m) (N : News g L1 s.heap news)
   (hf : env.frame = some L) (hke : env.scope.kind = .function) (hroom : A.depth + 60 < recursionLimit) (hh : A.handled = none)
   (hr : (r, listOf rits rk) ∈ news) (hrh : rits.toList[home.toNat]? = some (.ref rh)) (h0 : 0 ≤ home) (h1 : home < 1000) (hne : r ≠ rh) (hR : RowAt news rh R) (hD : FaultsAt news sg D) (hDr : D ≠ rh) (hv : 0 ≤ value ∧ value < 8) (he : 0 ≤ extra ∧ extra < 8) (hw : whichP place < 5) (hx : (R.getD (whichP place) default).length ≤ 2000) (hx2 : ((R.set (whichP place) (Str.ofString "")).getD (whichP place) default).length ≤ 2000)
   (m1 : m (Str.ofString "rows") = some (.ref r)) (m2 : m (Str.ofString "home") = some (.int home th)) (m3 : m (Str.ofString "kind") = some (.int 2 tk)) (m4 : m (Str.ofString "value") = some (.int value tv)) (m5 : m (Str.ofString "extra") = some (.int extra te)) (m6 : m (Str.ofString "which") = some (.int (whichP place) tw)) (m7 : m (Str.ofString "faults") = some (.ref D)) (m8 : m (Str.ofString "fault") = some (.str (faultP false place) tf))
   (h : ∀ L' m' h' t' news' R' a tw, Due2 (faultP false place) (faultT sg value) (whichP place) R R' a → Fr g L' h' m' → News g L' h' news' → Kept rh news news' → RowAt news' rh R' → Q (.ret (.str a tw)) {s with heap := h', toks := t'}) :
   wpAny (model pg w) (A.deeper (dueEnv L1)) (execs (dueBody.drop 10) (dueEnv L1)) Q E s := by
  dsimp only [dueEnv]
  conv in List.drop 10 dueBody => whnf
  conv in (occs := *) dueScope => all_goals whnf
  try dsimp only
  rw [← overA_eq (l := [(Str.ofString "rows", .ref r), (Str.ofString "home", .int home th), (Str.ofString "kind", .int 2 tk), (Str.ofString "value", .int value tv), (Str.ofString "extra", .int extra te), (Str.ofString "which", .int (whichP place) tw), (Str.ofString "faults", .ref D), (Str.ofString "fault", .str (faultP false place) tf)]) (M := m) (by simp only [List.forall_mem_cons]; exact ⟨m1, m2, m3, m4, m5, m6, m7, m8, fun _ h => nomatch h⟩)] at F
  simp only [overA] at F
  k_steps
  all_goals (try dsimp only)
  all_goals exact h _ _ _ _ _ _ _ _ (by first | exact .inl ⟨bne_ne (by assumption), rfl, rfl⟩ | exact .inr (.inl ⟨bne_eq (by assumption), by assumption, rfl, rfl⟩) | exact .inr (.inr (.inl ⟨bne_eq (by assumption), by assumption, bne_ne (by assumption), rfl, rfl⟩)) | exact .inr (.inr (.inr ⟨bne_eq (by assumption), by assumption, bne_eq (by assumption), rfl, rfl⟩))) (by assumption) (by assumption) (by first | assumption | exact Kept.refl | exact kept_tr (by assumption) (by assumption) | exact (fun q hq _ => .tail _ hq) | exact (fun q hq hne => (by assumption : Kept rh (_ :: _) _) q (.tail _ hq) hne)) (by first | assumption | exact RowAt.mono (by assumption) (fun q hq => .tail _ hq))
end
end
end
theorem offH46 : True := trivial
end
section
theorem kw79 : True := by
  w_top off
  trivial
section
theorem kw78 : True := by
  k_with "subscriptTail Name Constant ref int" => (fail_if_success have := @offH47); (refine' item_at ?Nw160 ?hlw160 ?hvw160 ?h0w160 ?hzw160 ?_; (case Nw160 => k_asm); (case hlw160 => k_mem); (case hvw160 => rfl); (case h0w160 => decide); (case hzw160 => decide))
  k_with "inplaceOp Add str str" => (fail_if_success have := @offH47); (refine SBL.iadd (hsz := len_two (by with_reducible assumption) (by with_reducible first | assumption | exact ofL1_len | exact rowx_len)) ?_; intro _ _)
  k_with "getItem ref int" => (fail_if_success have := @offH47); (refine' row_itemN ?Nw162 ?Rw162 ?hzw162 ?_; (case Nw162 => k_asm); (case Rw162 => walk_at "row"); (case hzw162 => with_reducible assumption); intro _)
  k_with "setItem ref int" => (fail_if_success have := @offH47); ((with_reducible show wpAny _ _ (setItem (Value.ref _) (Value.int _ _) (Value.str _ _)) _ _ _); refine' row_setN ?Fw163 ?Nw163 ?Rw163 ?hzw163 ?_; (case Fw163 => k_asm); (case Nw163 => k_asm); (case Rw163 => walk_at "row"); (case hzw163 => with_reducible assumption); intro _ _ _ _ _ _)
  k_with "row" => (fail_if_success have := @offH47); first | with_reducible assumption | exact RowAt.mono (by with_reducible assumption) (fun q hq => .tail _ hq) | exact RowAt.mono (by with_reducible assumption) (fun q hq => .tail _ (.tail _ hq))
  k_with "fa" => (fail_if_success have := @offH47); first | with_reducible assumption | exact FaultsAt.mono (by with_reducible assumption) (fun q hq => .tail _ hq) | exact FaultsAt.mono (by with_reducible assumption) (fun q hq => .tail _ (.tail _ hq))
  k_with "subscriptTail Name Name ref int" => (fail_if_success have := @offH47); (refine' item_at ?Nw166 ?hlw166 ?hvw166 ?h0w166 ?hzw166 ?_; (case hvw166 => with_reducible assumption); (case Nw166 => k_asm); (case hlw166 => k_mem); (case h0w166 => with_reducible assumption); (case hzw166 => with_reducible assumption))
  k_with "subscriptTail Name Name ref int" => (fail_if_success have := @offH47); (refine' faults_pick ?Nw167 ?hlw167 ?hzw167 ?_; (case Nw167 => k_asm); (case hlw167 => walk_at "fa"); (case hzw167 => with_reducible assumption); intro _)
  k_with "subscriptTail Subscript Name Name Name ref int" => (fail_if_success have := @offH47); (refine' row_pickN ?Nw168 ?Rw168 ?hzw168 ?_; (case Nw168 => k_asm); (case Rw168 => walk_at "row"); (case hzw168 => with_reducible assumption); intro _)
  trivial
section
variable {w : World} {A A₀ : Around} {E : Value → Shared → Prop} {s : Shared} {h₀ g : Heap} {env : Env} {L L1 r r0 r1 r2 rh : Addr} {m mg mb : Str → Option Value} {news : List (Addr × Obj)}
   {p : Program} {loose : List Str} {mean : ExcName → Option Value} {Q : Flow → Shared → Prop} {rk : Nat} {R : List Str} {home place value extra : Int} {sg : Str} {th tk tp tv te ts tw tm tf : Tok} {o : Obj} {rits : Array Value} {D : Addr} {kind : Int}
section
theorem due3 (KX : (hd.heap_39 w.params).In g) (T : Top p loose mean mg mb g) (B1 : Below A h₀ [env] g) (F : Fr g L1 s.heap m) (N : News g L1 s.heap news)
   (hf : env.frame = some L) (hke : env.scope.kind = .function) (hroom : A.depth + 60 < recursionLimit) (hh : A.handled = none)
   (hr : (r, listOf rits rk) ∈ news) (hrh : rits.toList[home.toNat]? = some (.ref rh)) (h0 : 0 ≤ home) (h1 : home < 1000) (hne : r ≠ rh) (hR : RowAt news rh R) (hD : FaultsAt news sg D) (hDr : D ≠ rh) (hv : 0 ≤ value ∧ value < 8) (he : 0 ≤ extra ∧ extra < 8) (hw : whichP place < 5) (hx : (R.getD (whichP place) default).length ≤ 2000) (hx2 : ((R.set (whichP place) (Str.ofString "")).getD (whichP place) default).length ≤ 2000)
   (m1 : m (Str.ofString "rows") = some (.ref r)) (m2 : m (Str.ofString "home") = some (.int home th)) (m3 : m (Str.ofString "kind") = some (.int 3 tk)) (m4 : m (Str.ofString "value") = some (.int value tv)) (m5 : m (Str.ofString "extra") = some (.int extra te)) (m6 : m (Str.ofString "which") = some (.int (whichP place) tw)) (m7 : m (Str.ofString "faults") = some (.ref D)) (m8 : m (Str.ofString "fault") = some (.str (faultP true place) tf))
   (h : ∀ L' m' h' t' news' R' a tw, Due3 (faultP true place) (faultT sg value) value (whichP place) R R' a → Fr g L' h' m' → News g L' h' news' → Kept rh news news' → RowAt news' rh R' → Q (.ret (.str a tw)) {s with heap := h', toks := t'}) :
   wpAny (model pg w) (A.deeper (dueEnv L1)) (execs (dueBody.drop 10) (dueEnv L1)) Q E s := by
  dsimp only [dueEnv]
  conv in List.drop 10 dueBody => whnf
  conv in (occs := *) dueScope => all_goals whnf
  try dsimp only
  rw [← overA_eq (l := [(Str.ofString "rows", .ref r), (Str.ofString "home", .int home th), (Str.ofString "kind", .int 3 tk), (Str.ofString "value", .int value tv), (Str.ofString "extra", .int extra te), (Str.ofString "which", .int (whichP place) tw), (Str.ofString "faults", .ref D), (Str.ofString "fault", .str (faultP true place) tf)]) (M := m) (by simp only [List.forall_mem_cons]; exact ⟨m1, m2, m3, m4, m5, m6, m7, m8, fun _ h => nomatch h⟩)] at F
  simp only [overA] at F
  k_steps
  all_goals (try dsimp only)
  all_goals exact h _ _ _ _ _ _ _ _ (by first | exact .inl ⟨by assumption, bne_ne (by assumption), rfl, rfl⟩ | exact .inr ⟨.inl (by assumption), .inl ⟨bne_ne (by assumption), rfl, rfl⟩⟩ | exact .inr ⟨.inr (bne_eq (by assumption)), .inl ⟨bne_ne (by assumption), rfl, rfl⟩⟩ | exact .inr ⟨.inl (by assumption), .inr ⟨bne_eq (by assumption), rfl, rfl⟩⟩ | exact .inr ⟨.inr (bne_eq (by assumption)), .inr ⟨bne_eq (by assumption), rfl, rfl⟩⟩) (by assumption) (by assumption) (by first | assumption | exact Kept.refl | exact kept_tr (by assumption) (by assumption) | exact (fun q hq _ => .tail _ hq) | exact (fun q hq hne => (by assumption : Kept rh (_ :: _) _) q (.tail _ hq) hne)) (by first | assumption | exact RowAt.mono (by assumption) (fun q hq => .tail _ hq))
end
section
theorem due4 (KX : (hd.heap_39 w.params).In g) (T : Top p loose mean mg mb g) (B1 : Below A h₀ [env] g) (F : Fr g L1 s.heap m) (N : News g L1 s.heap news)
   (hf : env.frame = some L) (hke : env.scope.kind = .function) (hroom : A.depth + 60 < recursionLimit) (hh : A.handled = none)
   (hr : (r, listOf rits rk) ∈ news) (hrh : rits.toList[home.toNat]? = some (.ref rh)) (h0 : 0 ≤ home) (h1 : home < 1000) (hne : r ≠ rh) (hR : RowAt news rh R) (hD : FaultsAt news sg D) (hDr : D ≠ rh) (hv : 0 ≤ value ∧ value < 8) (he : 0 ≤ extra ∧ extra < 8) (hw : whichP place < 5) (hx : (R.getD (whichP place) default).length ≤ 2000) (hx2 : ((R.set (whichP place) (Str.ofString "")).getD (whichP place) default).length ≤ 2000)
   (m1 : m (Str.ofString "rows") = some (.ref r)) (m2 : m (Str.ofString "home") = some (.int home th)) (m3 : m (Str.ofString "kind") = some (.int 4 tk)) (m4 : m (Str.ofString "value") = some (.int value tv)) (m5 : m (Str.ofString "extra") = some (.int extra te)) (m6 : m (Str.ofString "which") = some (.int (whichP place) tw)) (m7 : m (Str.ofString "faults") = some (.ref D)) (m8 : m (Str.ofString "fault") = some (.str (faultP true place) tf))
   (h : ∀ L' m' h' t' news' R' a tw, Due4 (faultP true place) (faultT sg value) (faultT sg extra) value extra (whichP place) R R' a → Fr g L' h' m' → News g L' h' news' → Kept rh news news' → RowAt news' rh R' → Q (.ret (.str a tw)) {s with heap := h', toks := t'}) :
   wpAny (model pg w) (A.deeper (dueEnv L1)) (execs (dueBody.drop 10) (dueEnv L1)) Q E s := by
  dsimp only [dueEnv]
  conv in List.drop 10 dueBody => whnf
  conv in (occs := *) dueScope => all_goals whnf
  try dsimp only
  rw [← overA_eq (l := [(Str.ofString "rows", .ref r), (Str.ofString "home", .int home th), (Str.ofString "kind", .int 4 tk), (Str.ofString "value", .int value tv), (Str.ofString "extra", .int extra te), (Str.ofString "which", .int (whichP place) tw), (Str.ofString "faults", .ref D), (Str.ofString "fault", .str (faultP true place) tf)]) (M := m) (by simp only [List.forall_mem_cons]; exact ⟨m1, m2, m3, m4, m5, m6, m7, m8, fun _ h => nomatch h⟩)] at F
  simp only [overA] at F
  k_steps
  all_goals (try dsimp only)
  all_goals exact h _ _ _ _ _ _ _ _ (by first | exact .inl ⟨by assumption, bne_ne (by assumption), rfl, rfl⟩ | exact .inr ⟨.inl (by assumption), .inl ⟨by assumption, bne_ne (by assumption), rfl, rfl⟩⟩ | exact .inr ⟨.inr (bne_eq (by assumption)), .inl ⟨by assumption, bne_ne (by assumption), rfl, rfl⟩⟩ | exact .inr ⟨.inl (by assumption), .inr ⟨.inl (by assumption), .inl ⟨bne_ne (by assumption), rfl, rfl⟩⟩⟩ | exact .inr ⟨.inr (bne_eq (by assumption)), .inr ⟨.inl (by assumption), .inl ⟨bne_ne (by assumption), rfl, rfl⟩⟩⟩ | exact .inr ⟨.inl (by assumption), .inr ⟨.inr (bne_eq (by assumption)), .inl ⟨bne_ne (by assumption), rfl, rfl⟩⟩⟩ | exact .inr ⟨.inr (bne_eq (by assumption)), .inr ⟨.inr (bne_eq (by assumption)), .inl ⟨bne_ne (by assumption), rfl, rfl⟩⟩⟩ | exact .inr ⟨.inl (by assumption), .inr ⟨.inl (by assumption), .inr ⟨bne_eq (by assumption), rfl, rfl⟩⟩⟩ | exact .inr ⟨.inr (bne_eq (by assumption)), .inr ⟨.inl (by assumption), .inr ⟨bne_eq (by assumption), rfl, rfl⟩⟩⟩ | exact .inr ⟨.inl (by assumption), .inr ⟨.inr (bne_eq (by assumption)), .inr ⟨bne_eq (by assumption), rfl, rfl⟩⟩⟩ | exact .inr ⟨.inr (bne_eq (by assumption)), .inr ⟨.inr (bne_eq (by assumption)), .inr ⟨bne_eq (by assumption), rfl, rfl⟩⟩⟩) (by assumption) (by assumption) (by first | assumption | exact Kept.refl | exact kept_tr (by assumption) (by assumption) | exact (fun q hq _ => .tail _ hq) | exact (fun q hq hne => (by assumption : Kept rh (_ :: _) _) q (.tail _ hq) hne)) (by first | assumption | exact RowAt.mono (by assumption) (fun q hq => .tail _ hq))
end
end
end
theorem offH47 : True := trivial
end
section
theorem kw80 : True := by
  w_top off
  trivial
section
variable {w : World} {A A₀ : Around} {E : Value → Shared → Prop} {s : Shared} {h₀ : Heap} {env : Env} {L r : Addr} {m mg mb : Str → Option Value} {news : List (Addr × Obj)}
   {p : Program} {loose : List Str} {mean : ExcName → Option Value} {Q : Value → Shared → Prop} {kind place value extra : Int} {sg : Str} {th tk tp tv te ts : Tok} {ps : Nat → List (Str × Value)} {home : Nat} {rk : Nat} {ra : Nat → Addr}
/-- what is due, whatever the kind -/
theorem due_all (S : Sit w A A₀ h₀ h₀ env [] L m p loose mean mg mb news s.heap 61) (R : RowsAt news r rk ra (fun i => rowsL (ps i))) (hlen : ∀ i < 3, (ps i).length < 900) (ht : home < 3) (hsg : SignOk sg)
   (hk : 0 ≤ kind ∧ kind < 8) (hp : 0 ≤ place ∧ place < 8) (hv : 0 ≤ value ∧ value < 8) (he : 0 ≤ extra ∧ extra < 8)
   (h : ∀ h' t' news' rk' ra' Rs' ans v, DueAll kind place value extra sg home (fun i => rowsL (ps i)) Rs' ans → Fr h₀ L h' m → News h₀ L h' news' → KeptR r ra news news' → RowsAt news' r rk' ra' Rs' → (∀ i < 3, ra' i = ra i ∨ ∀ q ∈ news, q.1 ≠ ra' i) → AnsIs news news' ans v → Q v {s with heap := h', toks := t'}) :
   wpAny (model pg w) A (call (.ref 200) [.ref r, .int (home : Int) th, .int kind tk, .int place tp, .int value tv, .int extra te, .str sg ts]) Q E s := by
  have S0 := S
  obtain ⟨KX0, TX0, B0, F0, N0, hA, hf, hke, hroom, hh⟩ := S0
  have hroom' : A.depth + 60 < recursionLimit := room0 hroom (by decide)
  have ho0 : (0 : Int) ≤ (home : Int) := Int.natCast_nonneg _
  have ho1 : (home : Int) < 1000 := Int.ofNat_lt.mpr (Nat.lt_of_lt_of_le ht (by decide))
  have hlen2 : ∀ i < 3, (ps i).length ≤ 2000 := fun i hi => Nat.le_trans (Nat.le_of_lt (hlen i hi)) (by decide)
  have hw := whichP_lt hp
  have bd : ∀ i < 3, ∀ c < 5, ((rowsL (ps i)).getD c default).length ≤ 2000 := fun i hi c hc => rowsL_bound (hlen2 i hi) hc
  have fin : ∀ {n1 : List (Addr × Obj)} h' t' news' R' a tw, (∀ q ∈ news, q ∈ n1) → DueK kind place value extra sg (rowsL (ps home)) R' a → Fr h₀ L h' m → News h₀ L h' news' → Kept (ra home) n1 news' → RowAt news' (ra home) R' → Q (.str a tw) {s with heap := h', toks := t'} := by
    intro n1 h' t' news' R' a tw sub dd F N K B
    have K' : Kept (ra home) news news' := K.sub sub
    exact h _ _ _ rk ra (updf (fun i => rowsL (ps i)) home R') (.txt a) _ (.inl ⟨R', a, dd, rfl, rfl⟩) F N (keptR_of ht K') (R.step ht K' B) (fun _ _ => .inl rfl) ⟨tw, rfl⟩
  refine due_head S hsg hp ?_
  intro g L1 o h1 t1 m1 news1 tw tm KXg Tg Bg F1 N1 sub hc hd hlt e1 e2 e3 e4 e5 e6 e7 e8 Q' E' hq
  have hk' := zsplit5 hk
  have hhome : (#[Value.ref (ra 0), .ref (ra 1), .ref (ra 2)] : Array Value).toList[(home : Int).toNat]? = some (.ref (ra home)) := by
    have : home = 0 ∨ home = 1 ∨ home = 2 := nlt3 ht
    rcases this with rfl | rfl | rfl <;> rfl
  rcases hk' with hk5 | rfl | rfl | rfl
  · refine due_mid KXg Tg Bg F1 N1 hf hke hroom' hh hc hd hsg hp hk.1 hk5 e1 e2 e3 e4 e5 e6 e7 ?_
    intro h2 t2 m2 news2 D tf F2 N2 sub2 hD hDn d1 d2 d3 d4 d5 d6 d7 d8
    have sub12 : ∀ q ∈ news, q ∈ news2 := fun q hq => sub2 q (sub q hq)
    obtain ⟨-, its, ik, him, -⟩ := R.row home ht
    have hDr : D ≠ ra home := fun e => hDn _ (sub _ him) e.symm
    have hx := bd home ht _ hw
    have h4 : kind = 0 ∨ kind = 1 ∨ kind = 2 ∨ kind = 3 ∨ kind = 4 := zlt5 ⟨hk.1, hk5⟩
    rcases h4 with rfl | rfl | rfl | rfl | rfl
    · refine due0 KXg Tg Bg F2 N2 hf hke hroom' hh (sub12 _ R.hr) hhome ho0 ho1 (R.ap home ht) ((R.row home ht).mono sub12) hD hDr hv he hw hx (set_bound hx) d1 d2 d3 d4 d5 d6 d7 d8 ?_
      intro L' m' h' t' news' R' a tw dd F N K B
      exact hq _ _ _ _ _ _ F N fun F3 N3 => fin _ _ _ _ _ _ sub12 (.inl ⟨rfl, dd⟩) F3 N3 K B
    · refine due1 KXg Tg Bg F2 N2 hf hke hroom' hh (sub12 _ R.hr) hhome ho0 ho1 (R.ap home ht) ((R.row home ht).mono sub12) hD hDr hv he hw hx (set_bound hx) d1 d2 d3 d4 d5 d6 d7 d8 ?_
      intro L' m' h' t' news' R' a tw dd F N K B
      exact hq _ _ _ _ _ _ F N fun F3 N3 => fin _ _ _ _ _ _ sub12 (.inr (.inl ⟨rfl, dd⟩)) F3 N3 K B
    · refine due2 KXg Tg Bg F2 N2 hf hke hroom' hh (sub12 _ R.hr) hhome ho0 ho1 (R.ap home ht) ((R.row home ht).mono sub12) hD hDr hv he hw hx (set_bound hx) d1 d2 d3 d4 d5 d6 d7 d8 ?_
      intro L' m' h' t' news' R' a tw dd F N K B
      exact hq _ _ _ _ _ _ F N fun F3 N3 => fin _ _ _ _ _ _ sub12 (.inr (.inr (.inl ⟨rfl, dd⟩))) F3 N3 K B
    · refine due3 KXg Tg Bg F2 N2 hf hke hroom' hh (sub12 _ R.hr) hhome ho0 ho1 (R.ap home ht) ((R.row home ht).mono sub12) hD hDr hv he hw hx (set_bound hx) d1 d2 d3 d4 d5 d6 d7 d8 ?_
      intro L' m' h' t' news' R' a tw dd F N K B
      exact hq _ _ _ _ _ _ F N fun F3 N3 => fin _ _ _ _ _ _ sub12 (.inr (.inr (.inr (.inl ⟨rfl, dd⟩)))) F3 N3 K B
    · refine due4 KXg Tg Bg F2 N2 hf hke hroom' hh (sub12 _ R.hr) hhome ho0 ho1 (R.ap home ht) ((R.row home ht).mono sub12) hD hDr hv he hw hx (set_bound hx) d1 d2 d3 d4 d5 d6 d7 d8 ?_
      intro L' m' h' t' news' R' a tw dd F N K B
      exact hq _ _ _ _ _ _ F N fun F3 N3 => fin _ _ _ _ _ _ sub12 (.inr (.inr (.inr (.inr ⟨rfl, dd⟩)))) F3 N3 K B
  · refine due5 KXg Tg Bg F1 N1 hf hke hroom' hh (sub _ R.hr) ((R.row 0 (by decide)).mono sub) hv hsg hw (bd 0 (by decide) _ hw) e1 e3 e4 e7 e8 ?_
    intro L' m' h' t' news' tw F N K B
    refine hq _ _ _ _ _ _ F N fun F3 N3 => ?_
    have K' : Kept (ra 0) news news' := K.sub sub
    exact h _ _ _ rk ra _ _ _ (.inr (.inl ⟨rfl, rfl, rfl⟩)) F3 N3 (keptR_of (by decide) K') (R.step (by decide) K' B) (fun _ _ => .inl rfl) ⟨tw, rfl⟩
  · refine due6 (ls := [rowN (ps 0) 0, rowN (ps 0) 1, rowN (ps 0) 2, rowN (ps 0) 3, rowN (ps 0) 4]) KXg Tg Bg F1 N1 hf hke hroom' hh (sub _ R.hr) ((R.row 0 (by decide)).mono sub) ?_ hc hd e1 e3 ?_
    · have hl0 := hlen2 0 (by decide)
      intro l hl
      simp only [List.mem_cons, List.not_mem_nil, or_false] at hl
      rcases hl with rfl | rfl | rfl | rfl | rfl <;> exact Nat.le_trans (rowN_le _ _) hl0
    · intro L' m' h' t' news' D k tw F N K hr' hDn B
      refine hq _ _ _ _ _ _ F N fun F3 N3 => ?_
      have K' : Kept r news news' := K.sub sub
      have hne : ∀ q ∈ news, q.1 ≠ D := fun q hq => hDn q (sub q hq)
      have hrow : ∀ i < 3, ra i ≠ D := fun i hi => by
        obtain ⟨-, its, ik, him, -⟩ := R.row i hi
        exact hne _ him
      refine h _ _ _ k (updf ra 0 D) (updf (fun i => rowsL (ps i)) 0 ((rowsL (ps 0)).map (turnedS place))) _ _ (.inr (.inr (.inl ⟨rfl, rfl, rfl⟩))) F3 N3 (fun q hq hr _ => K' q hq hr) ⟨hr', fun i hi => ?_, fun i hi => ?_, fun i j hi hj hij => ?_⟩ (fun i hi => ?_) ⟨tw, rfl⟩
      · by_cases e : i = 0
        · subst e
          rw [updf_self, updf_self]
          exact B
        · rw [updf_ne _ _ e, updf_ne _ _ e]
          exact (R.row i hi).kept K' (R.ap i hi).symm
      · by_cases e : i = 0
        · subst e
          rw [updf_self]
          exact hne _ R.hr
        · rw [updf_ne _ _ e]
          exact R.ap i hi
      · by_cases e : i = 0
        · subst e
          rw [updf_self, updf_ne _ _ (Ne.symm hij)]
          exact (hrow j hj).symm
        · by_cases e2 : j = 0
          · subst e2
            rw [updf_self, updf_ne _ _ e]
            exact hrow i hi
          · rw [updf_ne _ _ e, updf_ne _ _ e2]
            exact R.ap2 i j hi hj hij
      · by_cases e : i = 0
        · subst e
          rw [updf_self]
          exact .inr hne
        · rw [updf_ne _ _ e]
          exact .inl rfl
  · have hjl : (Txt.join (Str.ofString "") (rowsL (ps home))).length ≤ 10000 := by rw [join_rows_len]; exact Nat.le_trans (hlen2 home ht) (by decide)
    refine due7 KXg Tg Bg F1 N1 hf hke hroom' hh (sub _ R.hr) hhome ho0 ho1 ((R.row home ht).mono sub) (by rw [rowsL_total]; exact Nat.le_trans (hlen2 home ht) (by decide)) hjl (bd home ht 0 (by decide)) e1 e2 e3 ?_ ?_
    · intro L' m' h' t' news' tw hno F N sub'
      refine hq _ _ _ _ _ _ F N fun F3 N3 => ?_
      refine h _ _ _ rk ra _ _ _ (.inr (.inr (.inr ⟨rfl, rfl, rfl⟩))) F3 N3 (fun q hq _ _ => sub' q (sub q hq)) (R.mono fun q hq => sub' q (sub q hq)) (fun _ _ => .inl rfl) ?_
      unfold copyAns
      rw [if_neg hno]
      exact ⟨tw, rfl⟩
    · intro L' m' h' t' news' B k t1 t2 h4 hst F N sub' hm fr
      refine hq _ _ _ _ _ _ F N fun F3 N3 => ?_
      refine h _ _ _ rk ra _ _ _ (.inr (.inr (.inr ⟨rfl, rfl, rfl⟩))) F3 N3 (fun q hq _ _ => sub' q (sub q hq)) (R.mono fun q hq => sub' q (sub q hq)) (fun _ _ => .inl rfl) ?_
      unfold copyAns
      rw [if_pos ⟨h4, hst⟩]
      refine ⟨B, k, t1, t2, rfl, ?_, fun q hq => fr q (sub q hq)⟩
      have hle : ((rowsL (ps home)).getD 0 default).length ≤ (Txt.join (Str.ofString "") (rowsL (ps home))).length := by rw [join_rows_len]; exact rowsL_bound (Nat.le_refl _) (by decide)
      have e : (((Txt.join (Str.ofString "") (rowsL (ps home))).length - ((rowsL (ps home)).getD 0 default).length + 1 : Nat) : Int) = ((Txt.join (Str.ofString "") (rowsL (ps home))).length : Int) - (((rowsL (ps home)).getD 0 default).length : Int) + 1 := by omega
      rw [e]
      exact hm
end
end
section
theorem kw82 : True := by
  w_top off
  trivial
section
theorem kw81 : True := by
  k_with "agree" => (fail_if_success have := @offH61); first | with_reducible assumption | exact Agree.start | (refine' Agree.set ?_ ?kww169; (case kww169 => decide); walk_at "agree") | (refine' Agree.same ?_ ?kww169; (case kww169 => with_reducible assumption); walk_at "agree")
  k_with "kin" => (fail_if_success have := @offH61); first | with_reducible assumption | exact List.Mem.head _ | (refine List.mem_cons_of_mem _ ?_; walk_at "kin")
  k_with "execs cons" => (fail_if_success have := @offH61); ((with_reducible show wpAny _ _ (execs (Stmt.Expr _ _ :: _) _) _ _ _); refine hold_intro ?_)
  trivial
section
variable {w : World} {A A₀ : Around} {E : Value → Shared → Prop} {s : Shared} {h₀ : Heap} {L fa : Addr} {cd : Value} {m mg mb : Str → Option Value} {news : List (Addr × Obj)}
   {p : Program} {loose : List Str} {mean : ExcName → Option Value} {Q : Flow → Shared → Prop} {kind place value extra fg : Int} {sg : Str} {tk tt tp tv te tf ts th : Tok} {turn home : Nat}
   {T : Tb} {ps : Nat → List (Str × Value)} {r : Addr} {rk : Nat} {ra : Nat → Addr} {Rs : Nat → List Str} {TT tl dl : Addr} {tls dls : List Value} {fz : List (Addr × Obj)}
theorem turn1 (S : Sit w A A₀ h₀ h₀ (envOfC (Str.ofString "law") lawScope L fa cd) [] L m p loose mean mg mb news s.heap 100) (hu : A.units + 70 < cLine)
   (h0 : 0 ≤ fg) (h33 : fg < 33) (ht : turn < 4)
   (m1 : m (Str.ofString "figure") = some (.int fg tf)) (m2 : m (Str.ofString "turn") = some (.int (turn : Int) tt))
   (h : ∀ h1 t1 m1 news1 ts th, Fr h₀ L h1 m1 → News h₀ L h1 news1 → (∀ q ∈ news, q ∈ news1) → Agree [Str.ofString "sign", Str.ofString "home"] m m1 → m1 (Str.ofString "sign") = some (.str (signOf fg) ts) → m1 (Str.ofString "home") = some (.int (homeOf turn : Int) th) → wpAny (model pg w) A (execs (loopBody.drop 2) (envOfC (Str.ofString "law") lawScope L fa cd)) Q E {s with heap := h1, toks := t1}) :
   wpAny (model pg w) A (execs (loopBody.drop 0) (envOfC (Str.ofString "law") lawScope L fa cd)) Q E s := by
  revert S
  conv in List.drop 0 loopBody => whnf
  conv in (occs := *) lawScope => all_goals whnf
  try dsimp only
  intro S
  obtain ⟨KX, T', B', F, N, hA, hf, hke, hroom, hh⟩ := S
  rw [← overA_eq (l := [(Str.ofString "figure", .int fg tf), (Str.ofString "turn", .int (turn : Int) tt)]) (M := m) (by simp only [List.forall_mem_cons]; exact ⟨m1, m2, fun _ h => nomatch h⟩)] at F
  simp only [overA] at F
  by_cases e : fg = 32
  · subst e
    k_steps
    refine hold_elim ?_
    rename News _ _ _ _ => N9
    rename Fr _ _ _ _ => F9
    exact h _ _ _ _ _ _ F9 N9 (fun q hq => .tail _ hq) (by walk_at "agree") rfl (by rw [← homeI ht]; rfl)
  · have e2 : (fg == 32) = false := beq_eq_false_iff_ne.mpr e
    k_steps
    refine hold_elim ?_
    rename News _ _ _ _ => N9
    rename Fr _ _ _ _ => F9
    exact h _ _ _ _ _ _ F9 N9 (fun q hq => .tail _ hq) (by walk_at "agree") (by unfold signOf; rw [if_neg e]; rfl) (by rw [← homeI ht]; rfl)
end
end
theorem offH61 : True := trivial
end
section
theorem kw83 : True := by
  w_top off
  trivial
section
variable {w : World} {A A₀ : Around} {E : Value → Shared → Prop} {s : Shared} {h₀ base : Heap} {outer : List Env} {L C a : Addr} {m m₃ mg mb : Str → Option Value} {news : List (Addr × Obj)} {env env' : Env} {scope scope2 : Scope} {cl : List (Str × Addr)} {p1 p2 p3 p4 p5 p6 p7 p8 : Pos} {rs : List Str}
   {p : Program} {loose : List Str} {mean : ExcName → Option Value} {Q : Value → Shared → Prop}
/-- sum([len(row) for row in one]) -/
theorem sum_elt (S : Sit w A A₀ base h₀ env' outer L m p loose mean mg mb news s.heap 15) (R : RowAt news a rs) (hlen : ∀ x ∈ rs, x.length ≤ 2000) (hg : env.globals = mainGlobals) (hb : env.builtins = builtinsNs) (hk : (compEnvC scope cl C env).scope.kind = .function) (hj : (compEnvC scope cl C env).kindOf (Str.ofString "one") = some .local) (h1 : (compEnvC scope cl C env).kindOf (Str.ofString "sum") = some .globalImplicit) (hn : s.heap.Ns C m₃) (hm : m₃ (Str.ofString "one") = some (.ref a))
   (hclos : closureFor scope2 (compEnvC scope cl C env) = pure []) (hcell : ∀ y ∈ scope2.names, y.2 ≠ .cell) (hkind : scope2.kind = .function) (hnames : ∀ y ∈ scope2.names, y.2 = .local → scope2.names.lookup y.1 = some .local) (hx : scope2.names.lookup (Str.ofString "row") = some .local)
   (hk2 : ∀ C2, (compEnvC scope2 [] C2 (compEnvC scope cl C env)).scope.kind = .function) (hj2 : ∀ C2, (compEnvC scope2 [] C2 (compEnvC scope cl C env)).kindOf (Str.ofString "row") = some .local) (h2 : ∀ C2, (compEnvC scope2 [] C2 (compEnvC scope cl C env)).kindOf (Str.ofString "len") = some .globalImplicit)
   (hs : ∀ x, foldedSetIterable (.Name (Str.ofString "one") p6) (compEnvC scope cl C env) x = pure x)
   (hQ : ∀ h' t' tk D o, Fr h₀ L h' m → News h₀ L h' ((D, o) :: news) → (∀ q ∈ news, q.1 ≠ D) → Q (.int (rs.map fun x => ((x.length : Nat) : Int)).sum tk) { s with heap := h', toks := t' }) :
   wpAny (model pg w) A (eval (.Call (.Name (Str.ofString "sum") p1) [.ListComp (.Call (.Name (Str.ofString "len") p2) [.Name (Str.ofString "row") p3] [] p4) [⟨.Name (Str.ofString "row") p5, .Name (Str.ofString "one") p6, [], 0⟩] scope2 p7] [] p8) (compEnvC scope cl C env)) Q E s := by
  obtain ⟨h5, its, ik, him, hi⟩ := R
  have hsz : its.size = 5 := by rw [← Array.length_toList, StrsAre.len_eq hi]; exact h5
  refine Call_ ?_
  refine LCgL.ld_built S.F S.KX S.T (by k_is) rfl (by decide) ?_ hg hb hk h1
  refine PyProof.Rows.callWith_builtin1 ?_
  refine spliced_more ?_
  refine ListComp_own (fun i zs n => IntsAre zs ((rs.take i).map fun x => ((x.length : Nat) : Int))) S.F hclos hcell hkind hnames hx ?_ hs
  refine wpAny_Name (wpAny_loadName_local hk hj hn hm ?_)
  refine src_list (its := its) (n := ik) S.hh S.F S.N him (by rw [sizeLine_eq, hsz]; decide) ?_
  intro I fp wr P St h₈ O hP
  refine ⟨I, fp, wr, _, P, St, h₈, _, _, rfl, rfl, O, .nil, ?_, ?_⟩
  · intro C2 i' v zs n₁ n₂ h tk m₄ E' hi' hPv hJ hz sub sub2 F N hn2 hm2 hC2
    have hv := hP _ _ hPv
    rw [← Array.getElem?_toList] at hv
    obtain ⟨y, ty, rfl, hy⟩ := StrsAre.item hi _ _ hv
    have hyl := hlen y (List.mem_of_getElem? hy)
    refine Call_ ?_
    refine LCgL.ld_built F S.KX S.T (by k_is) rfl (by decide) ?_ hg hb (hk2 C2) (h2 C2)
    refine PyProof.Rows.callWith_builtin1 ?_
    refine spliced_more ?_
    refine wpAny_Name (wpAny_loadName_local (hk2 C2) (hj2 C2) hn2 hm2 ?_)
    refine spliced_none ?_
    refine PyProof.Rows.len_str (by omega) ?_
    refine ⟨_, _, [], rfl, F, N, (fun q hq => nomatch hq), ?_⟩
    show IntsAre (zs ++ [_]) ((rs.take (i' + 1)).map _)
    rw [List.take_add_one, hy, List.map_append]
    exact ints_snoc hJ _ _
  · intro D zs k n₁ h' tk F' N' ne sub hJ hz
    rw [hsz, List.take_of_length_le (by omega)] at hJ
    refine spliced_none ?_
    have N2 : News h₀ L h' ((D, listOf zs.toArray k) :: news) := news_mono N' (fun q hq => by
      rcases List.mem_cons.mp hq with rfl | hq
      · exact .head _
      · exact .tail _ (sub q hq))
    refine sum_own (a := D) F' N2 S.hh (.head _) hJ fun h2 tk2 t2 F2 N3 => ?_
    exact hQ _ _ _ D _ F2 N3 (fun q hq => ne q (sub q hq))
end
end
section
theorem kw85 : True := by
  w_top off
  trivial
section
theorem kw84 : True := by
  k_with "agree" => (fail_if_success have := @offH64); first | with_reducible assumption | exact Agree.start | (refine' Agree.set ?_ ?kww172; (case kww172 => decide); walk_at "agree") | (refine' Agree.same ?_ ?kww172; (case kww172 => with_reducible assumption); walk_at "agree")
  k_with "kin" => (fail_if_success have := @offH64); first | with_reducible assumption | exact List.Mem.head _ | (refine List.mem_cons_of_mem _ ?_; walk_at "kin")
  k_with "exec Assign cons ListComp" => (fail_if_success have := @offH64); refine hold_intro ?_
  k_with "pyIter ref" => (fail_if_success have := @offH64); refine hold_intro ?_
  k_with "execs cons" => (fail_if_success have := @offH64); ((with_reducible show wpAny _ _ (execs (Stmt.For _ _ _ _ _ :: _) _) _ _ _); refine hold_intro ?_)
  trivial
section
variable {w : World} {A A₀ : Around} {E : Value → Shared → Prop} {s : Shared} {h₀ : Heap} {L fa : Addr} {cd : Value} {m mg mb : Str → Option Value} {news : List (Addr × Obj)}
   {p : Program} {loose : List Str} {mean : ExcName → Option Value} {Q : Flow → Shared → Prop} {kind place value extra fg : Int} {sg : Str} {tk tt tp tv te tf ts th : Tok} {turn home : Nat}
   {T : Tb} {ps : Nat → List (Str × Value)} {r : Addr} {rk : Nat} {ra : Nat → Addr} {Rs : Nat → List Str} {TT tl dl : Addr} {tls dls : List Value} {fz : List (Addr × Obj)}
theorem turn3 (S : Sit w A A₀ h₀ h₀ (envOfC (Str.ofString "law") lawScope L fa cd) [] L m p loose mean mg mb news s.heap 100) (hu : A.units + 70 < cLine)
   (R : RowsAt news r rk ra (fun i => rowsL (ps i))) (hlen : ∀ i < 3, (ps i).length < 900)
   (m1 : m (Str.ofString "rows") = some (.ref r))
   (h : ∀ h1 t1 m1 news1 SZ sits sk, Fr h₀ L h1 m1 → News h₀ L h1 news1 → (∀ q ∈ news, q ∈ news1) → Agree [Str.ofString "sizes"] m m1 → m1 (Str.ofString "sizes") = some (.ref SZ) → (SZ, listOf sits sk) ∈ news1 → IntsAre sits.toList [((ps 0).length : Int), ((ps 1).length : Int), ((ps 2).length : Int)] → (∀ q ∈ news, q.1 ≠ SZ) → wpAny (model pg w) A (execs (loopBody.drop 5) (envOfC (Str.ofString "law") lawScope L fa cd)) Q E {s with heap := h1, toks := t1}) :
   wpAny (model pg w) A (execs (loopBody.drop 4) (envOfC (Str.ofString "law") lawScope L fa cd)) Q E s := by
  revert S
  conv in List.drop 4 loopBody => whnf
  conv in (occs := *) lawScope => all_goals whnf
  try dsimp only
  intro S
  obtain ⟨KX, T', B', F, N, hA, hf, hke, hroom, hh⟩ := S
  rw [← overA_eq (l := [(Str.ofString "rows", .ref r)]) (M := m) (by simp only [List.forall_mem_cons]; exact ⟨m1, fun _ h => nomatch h⟩)] at F
  simp only [overA] at F
  have hr := R.hr
  k_steps
  refine hold_elim ?_
  refine' Assign_own (fun i zs n => IntsAre zs ((List.range i).map fun x => ((ps x).length : Int))) ?F1 rfl ?hsw1 ?hclos1 ?hcell1 rfl ?hnames1 rfl rfl rfl ?src1 ?hfs1
  case F1 => k_asm
  case hsw1 => with_unfolding_all rfl
  case hclos1 => with_unfolding_all rfl
  case hcell1 => decide
  case hnames1 => decide
  case hfs1 => intro _; with_unfolding_all rfl
  case src1 =>
    k_steps
    refine hold_elim ?_
    refine' src_list (its := #[.ref (ra 0), .ref (ra 1), .ref (ra 2)]) (n := rk) ?hh2 ?F2 ?N2 hr ?hs2 ?Q2
    case hh2 => exact hh
    case F2 => k_asm
    case N2 => k_asm
    case hs2 => rw [sizeLine_eq]; exact (by decide : 3 ≤ 16777216)
    case Q2 =>
      intro I fp wr P St h₈ O hP
      refine ⟨I, fp, wr, _, P, St, h₈, _, _, rfl, rfl, O, .nil, ?_, ?_⟩
      · intro C i' v zs n₁ n₂ h tk m₃ E' hi' hPv hJ hz sub sub2 F N hn hm hC
        have hi3 : i' < 3 := hi'
        have hv := hP _ _ hPv
        have ev : v = .ref (ra i') := by
          have : i' = 0 ∨ i' = 1 ∨ i' = 2 := nlt3 (by first | with_reducible assumption | omega)
          rcases this with rfl | rfl | rfl <;> (cases hv; rfl)
        subst ev
        have hb : ∀ x ∈ rowsL (ps i'), x.length ≤ 2000 := fun x hx => by
          obtain ⟨c, hc, rfl⟩ := List.mem_iff_getElem.mp hx
          have := rowsL_bound (ps := ps i') (B := 2000) (by have := hlen i' hi3; omega) (c := c) hc
          rwa [List.getD_eq_getElem?_getD, List.getElem?_eq_getElem hc] at this
        refine sum_elt ⟨KX, T', B', F, N, hA, hf, hke, room0 hroom (by decide), hh⟩ ((R.row i' hi3).mono fun q hq => sub2 _ (sub _ hq)) hb rfl rfl rfl rfl rfl hn hm (by with_unfolding_all rfl) (by decide) rfl (by decide) rfl (fun _ => rfl) (fun _ => rfl) (fun _ => rfl) (by intro _; with_unfolding_all rfl) ?_
        intro h' t' tk D o F' N' ne
        refine ⟨_, _, [(D, o)], rfl, F', N', (fun q hq e he => by rw [List.mem_singleton.mp hq]; exact ne _ he), ?_⟩
        show IntsAre (zs ++ [_]) ((List.range (i' + 1)).map _)
        rw [List.range_succ, List.map_append, lens_sum]
        exact ints_snoc hJ _ _
      · intro D zs k n₁ h' tk F' N' ne sub hJ hz
        k_steps
        refine hold_elim ?_
        exact h _ _ _ _ D zs.toArray k F' N' (fun q hq => .tail _ (sub q hq)) (by walk_at "agree") rfl (.head _) hJ (fun q hq => ne q (sub q hq))
end
end
theorem offH64 : True := trivial
end
section
theorem kw87 : True := by
  w_top off
  trivial
section
theorem kw86 : True := by
  k_with "agree" => (fail_if_success have := @offH67); first | with_reducible assumption | exact Agree.start | (refine' Agree.set ?_ ?kww177; (case kww177 => decide); walk_at "agree") | (refine' Agree.same ?_ ?kww177; (case kww177 => with_reducible assumption); walk_at "agree")
  k_with "kin" => (fail_if_success have := @offH67); first | with_reducible assumption | exact List.Mem.head _ | (refine List.mem_cons_of_mem _ ?_; walk_at "kin")
  k_with "subscriptTail Name Name ref int" => (fail_if_success have := @offH67); (refine' item_at ?Nw179 ?hlw179 ?hvw179 ?h0w179 ?hzw179 ?_; (case hvw179 => with_reducible assumption); (case Nw179 => k_asm); (case hlw179 => k_mem); (case h0w179 => with_reducible assumption); (case hzw179 => with_reducible assumption))
  k_with "call builtin:list.clear" => (fail_if_success have := @offH67); (refine' clear_L ?Fw180 ?Nw180 ?hlw180 ?hzw180 ?_; (case Fw180 => k_asm); (case Nw180 => k_asm); (case hlw180 => k_mem); (case hzw180 => rw [sizeLine_eq]; omega); intro _ _ _ _)
  k_with "execs cons" => (fail_if_success have := @offH67); ((with_reducible show wpAny _ _ (execs (Stmt.Expr (Expr.Call (Expr.Attribute (Expr.Name (Str.ofString "due") _) _ _) _ _ _) _ :: _) _) _ _ _); refine hold_intro ?_)
  k_with "execs cons" => (fail_if_success have := @offH67); ((with_reducible show wpAny _ _ (execs (Stmt.Expr (Expr.Call (Expr.Attribute (Expr.Name (Str.ofString "shown") _) _ _) _ _ _) _ :: _) _) _ _ _); refine hold_intro ?_)
  trivial
section
variable {w : World} {A A₀ : Around} {E : Value → Shared → Prop} {s : Shared} {h₀ : Heap} {L fa : Addr} {cd : Value} {m mg mb : Str → Option Value} {news : List (Addr × Obj)}
   {p : Program} {loose : List Str} {mean : ExcName → Option Value} {Q : Flow → Shared → Prop} {kind place value extra fg : Int} {sg : Str} {tk tt tp tv te tf ts th : Tok} {turn home : Nat}
   {T : Tb} {ps : Nat → List (Str × Value)} {r : Addr} {rk : Nat} {ra : Nat → Addr} {Rs : Nat → List Str} {TT tl dl : Addr} {tls dls : List Value} {fz : List (Addr × Obj)}
theorem show_turn (S : Sit w A A₀ h₀ h₀ (envOfC (Str.ofString "law") lawScope L fa cd) [] L m p loose mean mg mb news s.heap 100) (hu : A.units + 70 < cLine)
   {SZ a : Addr} {sits its : Array Value} {sk k : Nat} (X : LS w news T ps r rk ra Rs TT tl dl tls dls fz) (ht : turn < 4) (hlen : ∀ i < 3, (ps i).length < 900) (hts : tls.length ≤ 600) (hds : dls.length ≤ 600) (hSZ : (SZ, listOf sits sk) ∈ fz) (hI : IntsAre sits.toList [((ps 0).length : Int), ((ps 1).length : Int), ((ps 2).length : Int)]) (ha : (a, listOf its k) ∈ news) (hsz : its.size = (ps (homeOf turn)).length) (ho : Off r ra T tl dl a) (hfz : ∀ p ∈ fz, p.1 ≠ a)
   (m1 : m (Str.ofString "told") = some (.ref tl)) (m2 : m (Str.ofString "due") = some (.ref dl)) (m3 : m (Str.ofString "sizes") = some (.ref SZ)) (m4 : m (Str.ofString "home") = some (.int (homeOf turn : Int) th)) (m5 : m (Str.ofString "shown") = some (.ref a))
   (h : ∀ h1 t1 m1 news1 t u, Fr h₀ L h1 m1 → Agree [] m m1 → News h₀ L h1 news1 → (∀ p ∈ news, p.1 ≠ tl → p.1 ≠ dl → p.1 ≠ a → p ∈ news1) → LS w news1 T ps r rk ra Rs TT tl dl (tls ++ [.int ((ps (homeOf turn)).length : Int) t]) (dls ++ [.int ((ps (homeOf turn)).length : Int) u]) fz → Q .next {s with heap := h1, toks := t1}) :
   wpAny (model pg w) A (execs (showBody.drop 0) (envOfC (Str.ofString "law") lawScope L fa cd)) Q E s := by
  revert S
  conv in List.drop 0 showBody => whnf
  conv in (occs := *) lawScope => all_goals whnf
  try dsimp only
  intro S
  obtain ⟨KX, T', B', F, N, hA, hf, hke, hroom, hh⟩ := S
  rw [← overA_eq (l := [(Str.ofString "told", .ref tl), (Str.ofString "due", .ref dl), (Str.ofString "sizes", .ref SZ), (Str.ofString "home", .int (homeOf turn : Int) th), (Str.ofString "shown", .ref a)]) (M := m) (by simp only [List.forall_mem_cons]; exact ⟨m1, m2, m3, m4, m5, fun _ h => nomatch h⟩)] at F
  simp only [overA] at F
  have hu2 : A.units + 64 < cLine := room0 hu (by decide)
  have h3 := homeOf_lt ht
  have hl3 := hlen _ h3
  have hsl : its.size ≤ 1000000 := by omega
  have hsl2 : its.size ≤ 1000 := by omega
  have hSn := X.fr _ hSZ
  have hc : ([((ps 0).length : Int), ((ps 1).length : Int), ((ps 2).length : Int)] : List Int)[((homeOf turn : Nat) : Int).toNat]? = some ((ps (homeOf turn)).length : Int) := by
    have : homeOf turn = 0 ∨ homeOf turn = 1 ∨ homeOf turn = 2 := nlt3 (by first | with_reducible assumption | omega)
    rcases this with e | e | e <;> rw [e] <;> rfl
  obtain ⟨tz, ez⟩ := ints_at hI hc
  have z0 : (0 : Int) ≤ ((homeOf turn : Nat) : Int) := Int.natCast_nonneg _
  have z1 : ((homeOf turn : Nat) : Int) < 1000 := Int.ofNat_lt.mpr (Nat.lt_of_lt_of_le (homeOf_lt ht) (by decide))
  have z2 : tls.toArray.size ≤ 1000 := Nat.le_trans hts (by decide)
  have z3 : dls.toArray.size ≤ 1000 := Nat.le_trans hds (by decide)
  obtain ⟨k1, hto⟩ := X.to
  k_steps
  refine hold_elim ?_
  rename Kept tl _ _ => K3
  rename ((tl, _) ∈ _) => mm3
  rename News _ _ _ _ => N3
  rw [List.push_toArray] at mm3
  have X3 := LS.told N X K3 mm3
  have ha3 := K3 _ ha ho.1
  obtain ⟨k3, hdu⟩ := X3.du
  have hSn := X3.fr _ hSZ
  clear mm3 hto
  refine wpAny_execs_cons ?_
  k_steps
  refine hold_elim ?_
  rename Kept dl _ _ => K5
  rename ((dl, _) ∈ _) => mm5
  rename News _ _ _ _ => N5
  rw [List.push_toArray] at mm5
  have X5 := LS.dued N3 X3 K5 mm5
  have ha5 := K5 _ ha3 ho.2.1
  clear mm5 hdu
  refine wpAny_execs_cons ?_
  k_steps
  rename News _ _ _ _ => N6
  rename Fr _ _ _ _ => F6
  rw [hsz] at X5
  refine h _ _ _ _ _ _ F6 (by walk_at "agree") N6 (fun p hp e1 e2 e3 => Kept.upd p (K5 p (K3 p hp e1) e2) e3) (LS.keptX (t := a) N5 X5 ha5 ho hfz Kept.upd)
end
end
theorem offH67 : True := trivial
end
section
theorem kw89 : True := by
  w_top off
  trivial
section
theorem kw88 : True := by
  k_with "agree" => (fail_if_success have := @offH65); first | with_reducible assumption | exact Agree.start | (refine' Agree.set ?_ ?kww183; (case kww183 => decide); walk_at "agree") | (refine' Agree.same ?_ ?kww183; (case kww183 => with_reducible assumption); walk_at "agree")
  k_with "kin" => (fail_if_success have := @offH65); first | with_reducible assumption | exact List.Mem.head _ | (refine List.mem_cons_of_mem _ ?_; walk_at "kin")
  k_with "subscriptTail Name Name ref int" => (fail_if_success have := @offH65); (refine' item_at ?Nw185 ?hlw185 ?hvw185 ?h0w185 ?hzw185 ?_; (case hvw185 => with_reducible assumption); (case Nw185 => k_asm); (case hlw185 => k_mem); (case h0w185 => with_reducible assumption); (case hzw185 => with_reducible assumption))
  k_with "call ref" => (fail_if_success have := @offH65); ((with_reducible show wpAny _ _ (call (Value.ref 136) _) _ _ _); refine hold_intro ?_)
  k_with "call ref" => (fail_if_success have := @offH65); ((with_reducible show wpAny _ _ (call (Value.ref 141) _) _ _ _); refine hold_intro ?_)
  k_with "call ref" => (fail_if_success have := @offH65); ((with_reducible show wpAny _ _ (call (Value.ref 148) _) _ _ _); refine hold_intro ?_)
  k_with "pyIter ref" => (fail_if_success have := @offH65); refine hold_intro ?_
  k_with "exec For Name Tuple" => (fail_if_success have := @offH65); refine hold_intro ?_
  k_with "exec For Name Tuple cons nil" => (fail_if_success have := @offH65); refine hold_intro ?_
  trivial
section
variable {w : World} {A A₀ : Around} {E : Value → Shared → Prop} {s : Shared} {h₀ : Heap} {L fa : Addr} {cd : Value} {m mg mb : Str → Option Value} {news : List (Addr × Obj)}
   {p : Program} {loose : List Str} {mean : ExcName → Option Value} {Q : Flow → Shared → Prop} {kind place value extra fg : Int} {sg : Str} {tk tt tp tv te tf ts th : Tok} {turn home : Nat}
   {T : Tb} {ps : Nat → List (Str × Value)} {r : Addr} {rk : Nat} {ra : Nat → Addr} {Rs : Nat → List Str} {TT tl dl : Addr} {tls dls : List Value} {fz : List (Addr × Obj)}
theorem turn4 (S : Sit w A A₀ h₀ h₀ (envOfC (Str.ofString "law") lawScope L fa cd) [] L m p loose mean mg mb news s.heap 100) (hu : A.units + 70 < cLine)
   {SZ : Addr} {sits : Array Value} {sk : Nat} (X : LS w news T ps r rk ra (fun i => rowsL (ps i)) TT tl dl tls dls fz) (ht : turn < 4) (hlen : ∀ i < 3, (ps i).length < 900) (hts : tls.length ≤ 500) (hds : dls.length ≤ 500) (hSZ : (SZ, listOf sits sk) ∈ fz) (hI : IntsAre sits.toList [((ps 0).length : Int), ((ps 1).length : Int), ((ps 2).length : Int)])
   (m1 : m (Str.ofString "told") = some (.ref tl)) (m2 : m (Str.ofString "due") = some (.ref dl)) (m3 : m (Str.ofString "tables") = some (.ref TT)) (m4 : m (Str.ofString "sizes") = some (.ref SZ)) (m5 : m (Str.ofString "home") = some (.int (homeOf turn : Int) th)) (m6 : m (Str.ofString "turn") = some (.int (turn : Int) tt))
   (h : ∀ h1 t1 m1 news1 zs us cs fz', Fr h₀ L h1 m1 → News h₀ L h1 news1 → Agree [Str.ofString "shown"] m m1 → IntsAre zs cs → IntsAre us cs → cs.length = 3 → (∀ p ∈ fz, p ∈ fz') → LS w news1 T ps r rk ra (fun i => rowsL (ps i)) TT tl dl (tls ++ zs) (dls ++ us) fz' → wpAny (model pg w) A (execs (loopBody.drop 6) (envOfC (Str.ofString "law") lawScope L fa cd)) Q E {s with heap := h1, toks := t1}) :
   wpAny (model pg w) A (execs (loopBody.drop 5) (envOfC (Str.ofString "law") lawScope L fa cd)) Q E s := by
  revert S
  conv in List.drop 5 loopBody => whnf
  conv in (occs := *) lawScope => all_goals whnf
  try dsimp only
  intro S
  obtain ⟨KX, T', B', F, N, hA, hf, hke, hroom, hh⟩ := S
  rw [← overA_eq (l := [(Str.ofString "told", .ref tl), (Str.ofString "due", .ref dl), (Str.ofString "tables", .ref TT), (Str.ofString "sizes", .ref SZ), (Str.ofString "home", .int (homeOf turn : Int) th), (Str.ofString "turn", .int (turn : Int) tt)]) (M := m) (by simp only [List.forall_mem_cons]; exact ⟨m1, m2, m3, m4, m5, m6, fun _ h => nomatch h⟩)] at F
  simp only [overA] at F
  have hu2 : A.units + 64 < cLine := room0 hu (by decide)
  obtain ⟨kT, hTT⟩ := X.tt
  have hTn := X.fr _ hTT
  have hX : (#[Value.ref (T.X 0), .ref (T.X 1), .ref (T.X 2), .ref (T.X 3)] : Array Value).toList[(turn : Int).toNat]? = some (.ref (T.X turn)) := by
    have : turn = 0 ∨ turn = 1 ∨ turn = 2 ∨ turn = 3 := nlt4 (by first | with_reducible assumption | omega)
    rcases this with rfl | rfl | rfl | rfl <;> rfl
  have z0 : (0 : Int) ≤ (turn : Int) := Int.natCast_nonneg _
  have z1 : ((turn : Nat) : Int) < 1000 := Int.ofNat_lt.mpr (Nat.lt_of_lt_of_le ht (by decide))
  obtain ⟨its, k, B⟩ := X.H turn ht
  k_steps
  refine hold_elim ?_
  refine wpAny_For ?_
  k_steps
  refine hold_elim ?_
  k_dflt (refine' box_items ?S ?B ?_; (case B => exact B); (case S => walk_at "mk_sit"))
  intro D0 h' t' F' N' l0
  replace B := B.tail (e := (D0, listOf its 0))
  k_steps
  refine hold_elim ?_
  k_dflt (refine' keys_box ?S2 ?B2 ?_; (case B2 => exact B); (case S2 => walk_at "mk_sit"))
  intro D1 ys1 k1 h' t' e1 F' N' l1
  replace B := B.tail (e := (D1, listOf ys1.toArray k1))
  k_steps
  refine hold_elim ?_
  k_dflt (refine' values_box ?S3 ?B3 ?_; (case B3 => exact B); (case S3 => walk_at "mk_sit"))
  intro D2 ys2 k2 h' t' e2 F' N' l2
  k_steps
  refine hold_elim ?_
  rename _ < _ ∧ _ < _ ∧ _ < _ ∧ AllLt _ _ => lT
  rename News _ _ _ _ => N9
  rename Fr _ _ _ _ => F9
  rename_i tup h9
  have el : ∀ q ∈ news, q.1 ≠ D0 := fun q hq => Nat.ne_of_lt (l0 q hq)
  have el1 : ∀ q ∈ news, q.1 ≠ D1 := fun q hq => l1 q (.tail _ hq)
  have el2 : ∀ q ∈ news, q.1 ≠ D2 := fun q hq => l2 q (.tail _ (.tail _ hq))
  have elt : ∀ q ∈ news, q.1 ≠ tup := fun q hq => Nat.ne_of_lt (kst_ltOf lT.2.2.2 _ hq)
  have o0 := X.fresh el
  have o1 := X.fresh el1
  have o2 := X.fresh el2
  have ot := X.fresh elt
  have X9 := (X.grow (n' := (tup, tupOf #[.ref D0, .ref D1, .ref D2] 0) :: (D2, listOf ys2.toArray k2) :: (D1, listOf ys1.toArray k1) :: (D0, listOf its 0) :: news) fun q hq => .tail _ (.tail _ (.tail _ (.tail _ hq)))).add (.head _) ot
  refine' for_tuple (n := 0) (ShowJ w T ps r rk ra (fun i => rowsL (ps i)) TT tl dl tls dls _ (ps (homeOf turn)).length (fun j => if j = 0 then D0 else if j = 1 then D1 else D2) m) ?hh ?F ?N ?hJ ?hl ?j0 ?turn ?done
  case hh => exact hh
  case F => k_asm
  case N => k_asm
  case j0 =>
    refine ⟨by walk_at "agree", ⟨[], [], [], .nil, .nil, rfl, by rw [List.append_nil, List.append_nil]; exact X9⟩, fun j _ hj => ?_⟩
    have : j = 0 ∨ j = 1 ∨ j = 2 := nlt3 (by first | with_reducible assumption | omega)
    rcases this with rfl | rfl | rfl
    · exact ⟨its, 0, .tail _ (.tail _ (.tail _ (.head _))), B.size⟩
    · exact ⟨_, k1, .tail _ (.tail _ (.head _)), List.size_toArray.trans e1⟩
    · exact ⟨_, k2, .tail _ (.head _), List.size_toArray.trans e2⟩
  case hJ => exact ShowJ.mono X9.fr
  case hl => exact fun i m n h => let ⟨_, ⟨_, _, _, _, _, _, Y⟩, _⟩ := h; Y.fr _ (.head _)
  case turn =>
    rintro i v m₁ n₁ h₂ tk₂ it hv ⟨hAg, ⟨zs, us, cs, hz, hu', hcs, Y⟩, hD⟩ hit him hin F1 N1
    have hi3 : i < 3 := by
      have := (Array.getElem?_eq_some_iff.mp hv).1
      exact this
    obtain ⟨a, ha⟩ : ∃ a, a = (fun j => if j = 0 then D0 else if j = 1 then D1 else D2) i := ⟨_, rfl⟩
    have ev : v = .ref a := by
      have : i = 0 ∨ i = 1 ∨ i = 2 := nlt3 (by first | with_reducible assumption | omega)
      rcases this with rfl | rfl | rfl <;> (subst ha; cases hv; rfl)
    subst ev
    obtain ⟨ia, ka, hma, hsa⟩ := hD i (Nat.le_refl _) hi3
    rw [← ha] at hma
    have oa : Off r ra T tl dl a ∧ ∀ q ∈ news, q.1 ≠ a := by
      have : i = 0 ∨ i = 1 ∨ i = 2 := nlt3 (by first | with_reducible assumption | omega)
      rcases this with rfl | rfl | rfl
      · rw [ha]; exact ⟨o0, el⟩
      · rw [ha]; exact ⟨o1, el1⟩
      · rw [ha]; exact ⟨o2, el2⟩
    have hat : a ≠ tup := by
      rcases (nlt3 (by first | with_reducible assumption | omega) : i = 0 ∨ i = 1 ∨ i = 2) with rfl | rfl | rfl
      · rw [ha]; exact Nat.ne_of_lt lT.2.2.1
      · rw [ha]; exact Nat.ne_of_lt lT.2.1
      · rw [ha]; exact Nat.ne_of_lt lT.1
    have hzl := hz.length
    have hul := hu'.length
    have tlt := Y.to
    obtain ⟨k5, hto⟩ := Y.to
    obtain ⟨k6, hdu⟩ := Y.du
    refine assign_name F1 N1 rfl rfl ?_
    intro h₃ tk₃ F2 N2
    refine' show_turn ?Sx (by omega) Y ht hlen ?w6 ?w7 (List.mem_cons_of_mem _ hSZ) hI hma hsa oa.1 ?w8 ?w1 ?w2 ?w3 ?w4 ?w5 ?w9
    case Sx => exact ⟨KX, T', B', F2, N2, hA, hf, hke, hroom, hh⟩
    case w1 => exact (hAg _ (by decide)).trans m1
    case w2 => exact (hAg _ (by decide)).trans m2
    case w3 => exact (hAg _ (by decide)).trans m4
    case w4 => exact (hAg _ (by decide)).trans m5
    case w5 => rfl
    case w6 => rw [List.length_append]; omega
    case w7 => rw [List.length_append]; omega
    case w8 =>
      intro p hp
      rcases List.mem_cons.mp hp with rfl | hp
      · exact hat.symm
      · exact oa.2 _ (X.fr _ hp)
    case w9 =>
      intro h1 t1 m5 news1 t u F5 A5 N5 K5 X5
      refine ⟨_, _, _, _, rfl, F5, N5, K5 _ him (iter_neL N1 hit him hto) (iter_neL N1 hit him hdu) (iter_neL N1 hit him hma), ?_, ⟨zs ++ [_], us ++ [_], cs ++ [_], ints_snoc1 hz _ _, ints_snoc1 hu' _ _, by rw [List.length_append, hcs]; rfl, by rw [← List.append_assoc, ← List.append_assoc]; exact X5⟩, fun j h8 h9 => ?_⟩
      · intro y hy
        rw [A5 y (fun h => nomatch h)]
        show (if y = _ then _ else m₁ y) = _
        rw [if_neg (fun e => hy (by rw [e]; exact .head _))]
        exact hAg y hy
      · obtain ⟨ib, kb, hmb, hsb⟩ := hD j (by omega) h9
        have ob : Off r ra T tl dl ((fun j => if j = 0 then D0 else if j = 1 then D1 else D2) j) ∧ (fun j => if j = 0 then D0 else if j = 1 then D1 else D2) j ≠ a := by
          rw [ha]
          rcases (by omega : j = 1 ∨ j = 2) with rfl | rfl
          · refine ⟨o1, ?_⟩
            rcases (by omega : i = 0) with rfl
            exact (l1 _ (.head _)).symm
          · refine ⟨o2, ?_⟩
            rcases (nlt2 (by first | with_reducible assumption | omega) : i = 0 ∨ i = 1) with rfl | rfl
            · exact (l2 _ (.tail _ (.head _))).symm
            · exact (l2 _ (.head _)).symm
        exact ⟨ib, kb, K5 _ hmb ob.1.1 ob.1.2.1 ob.2, hsb⟩
  case done =>
    rintro m₁ n₁ h₂ tk₂ ⟨hAg, ⟨zs, us, cs, hz, hu', hcs, Y⟩, hD⟩ F1 N1
    exact h _ _ _ _ zs us cs _ F1 N1 hAg hz hu' hcs (fun p hp => .tail _ hp) Y
end
end
theorem offH65 : True := trivial
end
section
theorem kw91 : True := by
  w_top off
  trivial
section
theorem kw90 : True := by
  k_with "agree" => (fail_if_success have := @offH68); first | with_reducible assumption | exact Agree.start | (refine' Agree.set ?_ ?kww192; (case kww192 => decide); walk_at "agree") | (refine' Agree.same ?_ ?kww192; (case kww192 => with_reducible assumption); walk_at "agree")
  k_with "kin" => (fail_if_success have := @offH68); first | with_reducible assumption | exact List.Mem.head _ | (refine List.mem_cons_of_mem _ ?_; walk_at "kin")
  k_with "call ref" => (fail_if_success have := @offH68); ((with_reducible show wpAny _ _ (call (Value.ref 184) _) _ _ _); refine hold_intro ?_)
  k_with "subscriptTail Name Constant ref int" => (fail_if_success have := @offH68); (refine' item_at ?Nw195 ?hlw195 ?hvw195 ?h0w195 ?hzw195 ?_; (case hvw195 => with_reducible assumption); (case Nw195 => k_asm); (case hlw195 => k_mem); (case h0w195 => decide); (case hzw195 => decide))
  k_with "pyIter ref" => (fail_if_success have := @offH68); refine hold_intro ?_
  k_with "call builtin:list.append" => (fail_if_success have := @offH68); refine hold_intro ?_
  trivial
section
variable {w : World} {A A₀ : Around} {E : Value → Shared → Prop} {s : Shared} {h₀ : Heap} {L fa : Addr} {cd : Value} {m mg mb : Str → Option Value} {news : List (Addr × Obj)}
   {p : Program} {loose : List Str} {mean : ExcName → Option Value} {Q : Flow → Shared → Prop} {kind place value extra fg : Int} {sg : Str} {tk tt tp tv te tf ts th : Tok} {turn home : Nat}
   {T : Tb} {ps : Nat → List (Str × Value)} {r : Addr} {rk : Nat} {ra : Nat → Addr} {Rs : Nat → List Str} {TT tl dl : Addr} {tls dls : List Value} {fz : List (Addr × Obj)}
theorem turn5 (S : Sit w A A₀ h₀ h₀ (envOfC (Str.ofString "law") lawScope L fa cd) [] L m p loose mean mg mb news s.heap 100) (hu : A.units + 70 < cLine)
   {SZ : Addr} {sits : Array Value} {sk : Nat} (X : LS w news T ps r rk ra (fun i => rowsL (ps i)) TT tl dl tls dls fz) (hlen : ∀ i < 3, (ps i).length < 900) (hts : tls.length ≤ 600) (hds : dls.length ≤ 600) (hSZ : (SZ, listOf sits sk) ∈ fz) (hI : IntsAre sits.toList [((ps 0).length : Int), ((ps 1).length : Int), ((ps 2).length : Int)])
   (m1 : m (Str.ofString "told") = some (.ref tl)) (m2 : m (Str.ofString "due") = some (.ref dl)) (m3 : m (Str.ofString "tables") = some (.ref TT)) (m4 : m (Str.ofString "sizes") = some (.ref SZ))
   (h : ∀ h1 t1 m1 news1 v u fz', Fr h₀ L h1 m1 → News h₀ L h1 news1 → Agree [] m m1 → (∀ p ∈ fz, p ∈ fz') → Alike fz' 2 v u → LS w news1 T ps r rk ra (fun i => rowsL (ps i)) TT tl dl (tls ++ [v]) (dls ++ [u]) fz' → Q .next {s with heap := h1, toks := t1}) :
   wpAny (model pg w) A (execs (loopBody.drop 6) (envOfC (Str.ofString "law") lawScope L fa cd)) Q E s := by
  revert S
  conv in List.drop 6 loopBody => whnf
  conv in (occs := *) lawScope => all_goals whnf
  try dsimp only
  intro S
  obtain ⟨KX, T', B', F, N, hA, hf, hke, hroom, hh⟩ := S
  rw [← overA_eq (l := [(Str.ofString "told", .ref tl), (Str.ofString "due", .ref dl), (Str.ofString "tables", .ref TT), (Str.ofString "sizes", .ref SZ)]) (M := m) (by simp only [List.forall_mem_cons]; exact ⟨m1, m2, m3, m4, fun _ h => nomatch h⟩)] at F
  simp only [overA] at F
  have hu2 : A.units + 64 < cLine := room0 hu (by decide)
  obtain ⟨kT, hTT⟩ := X.tt
  have hTn := X.fr _ hTT
  have hSn := X.fr _ hSZ
  obtain ⟨k1, hto⟩ := X.to
  obtain ⟨k2, hdu⟩ := X.du
  have z2 : tls.toArray.size ≤ 1000 := Nat.le_trans hts (by decide)
  have z3 : dls.toArray.size ≤ 1000 := Nat.le_trans hds (by decide)
  obtain ⟨t0, e0⟩ : ∃ t, sits.toList[(0 : Int).toNat]? = some (.int ((ps 0).length : Int) t) := ints_at hI rfl
  obtain ⟨t1, e1⟩ : ∃ t, sits.toList[(1 : Int).toNat]? = some (.int ((ps 1).length : Int) t) := ints_at hI rfl
  obtain ⟨t2, e2⟩ : ∃ t, sits.toList[(2 : Int).toNat]? = some (.int ((ps 2).length : Int) t) := ints_at hI rfl
  k_steps
  refine hold_elim ?_
  refine' ListComp_own (fun i zs n => IntsAre zs ((List.range i).map fun x => if x < 4 then ((ps (homeOf x)).length : Int) else 0)) ?F1 ?hclos6 ?hcell6 rfl ?hnames6 rfl ?src6 ?hfs6
  case F1 => k_asm
  case hclos6 => with_unfolding_all rfl
  case hcell6 => decide
  case hnames6 => decide
  case hfs6 => intro _; with_unfolding_all rfl
  case src6 =>
    k_steps
    refine hold_elim ?_
    k_dflt (refine' init_new0 ?Si ?_; (case Si => walk_at "mk_sit"))
    intro l x d h' t' tl' F' N' ld dx xl
    k_steps
    refine hold_elim ?_
    rename News _ _ _ _ => N9
    rename Fr _ _ _ _ => F9
    rename_i l9 h9 lZ1 D9 h99 lZ2
    have BX : Box w ((D9, listOf #[.ref (T.X 0), .ref (T.X 1), .ref (T.X 2), .ref (T.X 3), .ref x] 0) :: (l9, listOf #[.ref x] 0) :: (l, listOf #[] 0) :: (x, instObj 184 d) :: (d, dictOf [⟨PyData.keyHash w.params (Str.ofString "_headers"), .str (Str.ofString "_headers") tl', .ref l⟩] 1) :: news) x l d tl' #[] 0 [] := ⟨.tail _ (.tail _ (.tail _ (.head _))), .tail _ (.tail _ (.tail _ (.tail _ (.head _)))), .tail _ (.tail _ (.head _)), .nil, by decide⟩
    refine' src_list (its := #[.ref (T.X 0), .ref (T.X 1), .ref (T.X 2), .ref (T.X 3), .ref x]) (n := 0) ?hhb ?Fb N9 (List.Mem.head _) ?hsb ?Qb
    case hhb => exact hh
    case Fb => exact F9
    case hsb => rw [sizeLine_eq]; exact (by decide : 5 ≤ 16777216)
    case Qb =>
      intro I fp wr P St h₈ O hP
      refine ⟨I, fp, wr, _, P, St, h₈, _, _, rfl, rfl, O, .nil, ?_, ?_⟩
      · intro C i' v zs n₁ n₂ h tk m₃ E' hi' hPv hJ hz sub sub2 F N hn hm hC
        have hi5 : i' < 5 := hi'
        have hv := hP _ _ hPv
        obtain ⟨xx, ll, dd, tt', ii, kk, pp, ev, B, el⟩ : ∃ xx ll dd tt' ii kk pp, v = .ref xx ∧ Box w n₂ xx ll dd tt' ii kk pp ∧ ((pp.length : Nat) : Int) = (if i' < 4 then ((ps (homeOf i')).length : Int) else 0) := by
          by_cases e : i' < 4
          · obtain ⟨ii, kk, B⟩ := X.H i' e
            refine ⟨T.X i', _, _, _, ii, kk, _, ?_, B.mono fun q hq => sub2 _ (sub _ (.tail _ (.tail _ (.tail _ (.tail _ (.tail _ hq)))))), (if_pos e).symm⟩
            rcases (nlt4 (by first | with_reducible assumption | omega) : i' = 0 ∨ i' = 1 ∨ i' = 2 ∨ i' = 3) with rfl | rfl | rfl | rfl <;> (cases hv; rfl)
          · refine ⟨x, l, d, tl', #[], 0, [], ?_, BX.mono fun q hq => sub2 _ (sub _ hq), by rw [if_neg e]; rfl⟩
            rcases (by omega : i' = 4) with rfl
            cases hv; rfl
        subst ev
        refine len_elt ⟨KX, T', B', F, N, hA, hf, hke, room0 hroom (by decide), hh⟩ B rfl rfl rfl rfl rfl hn hm ?_
        intro h' t' tk F' N'
        refine ⟨_, _, [], rfl, F', N', (fun q hq => nomatch hq), ?_⟩
        show IntsAre (zs ++ [_]) ((List.range (i' + 1)).map _)
        rw [List.range_succ, List.map_append, el]
        exact ints_snoc hJ _ _
      · intro D zs k n₁ h' tk F' N' ne sub hJ hz
        have X1 := X.grow (n' := (D, listOf zs.toArray k) :: n₁) fun q hq => .tail _ (sub _ (.tail _ (.tail _ (.tail _ (.tail _ (.tail _ hq))))))
        have oD := X.fresh (a := D) fun q hq => ne _ (sub _ (.tail _ (.tail _ (.tail _ (.tail _ (.tail _ hq))))))
        have X2 := X1.add (.head _) oD
        clear X1
        obtain ⟨k5, hto⟩ := X2.to
        k_steps
        refine hold_elim ?_
        refine append_K F' N' hto (by rw [sizeLine_eq]; omega) ?_
        intro h3 n3 F3 N3 K3 mm3
        rw [List.push_toArray] at mm3
        have X3 := LS.told N' X2 K3 mm3
        clear mm3 hto
        obtain ⟨k6, hdu⟩ := X3.du
        have hSn := X3.fr _ (.tail _ hSZ)
        k_steps
        rename News _ _ _ _ => N4
        rename Fr _ _ _ _ => F4
        rename_i l5 h5 l5lt
        refine hold_elim ?_
        have hJ2 : IntsAre zs [((ps 0).length : Int), ((ps 0).length : Int), ((ps 1).length : Int), ((ps 2).length : Int), 0] := hJ
        have X4 := (X3.grow (n' := (l5, listOf #[.int ((ps 0).length : Int) t0, .int ((ps 0).length : Int) t0, .int ((ps 1).length : Int) t1, .int ((ps 2).length : Int) t2, .int 0 (tk + 1 + 1 + 1 + 1)] 0) :: n3) fun q hq => .tail _ hq).add (.head _) (X3.fresh (a := l5) fun q hq => Nat.ne_of_lt (l5lt q hq))
        obtain ⟨k7, hdu⟩ := X4.du
        refine append_K F4 N4 hdu (by rw [sizeLine_eq]; exact Nat.le_trans z3 (by decide)) ?_
        intro h6 n6 F6 N6 K6 mm6
        rw [List.push_toArray] at mm6
        have X6 := LS.dued N4 X4 K6 mm6
        k_steps
        exact h _ _ _ _ _ _ _ F6 N6 (by walk_at "agree") (fun p hp => .tail _ (.tail _ hp)) (Alike.list (.tail _ (.head _)) (.head _) (alike_ints hJ2 (.cons _ _ (.cons _ _ (.cons _ _ (.cons _ _ (.cons _ _ .nil))))))) X6
end
end
theorem offH68 : True := trivial
end
section
theorem kw93 : True := by
  w_top off
  trivial
section
theorem kw92 : True := by
  k_with "agree" => (fail_if_success have := @offH72); first | with_reducible assumption | exact Agree.start | (refine' Agree.set ?_ ?kww198; (case kww198 => decide); walk_at "agree") | (refine' Agree.same ?_ ?kww198; (case kww198 => with_reducible assumption); walk_at "agree")
  k_with "kin" => (fail_if_success have := @offH72); first | with_reducible assumption | exact List.Mem.head _ | (refine List.mem_cons_of_mem _ ?_; walk_at "kin")
  k_with "execs cons" => (fail_if_success have := @offH72); ((with_reducible show wpAny _ _ (execs (Stmt.If _ _ _ _ :: _) _) _ _ _); refine hold_intro ?_)
  k_with "compareOp NotEq ref ref" => (fail_if_success have := @offH72); refine hold_intro ?_
  k_with "compareOp Eq ref ref" => (fail_if_success have := @offH72); refine hold_intro ?_
  k_with "binaryOp Mult ref int" => (fail_if_success have := @offH72); refine hold_intro ?_
  k_with "subscriptTail Name Constant ref int" => (fail_if_success have := @offH72); (refine' item_at ?Nw204 ?hlw204 ?hvw204 ?h0w204 ?hzw204 ?_; (case Nw204 => k_asm); (case hlw204 => walk_at "kin"); (case hvw204 => rfl); (case h0w204 => decide); (case hzw204 => decide))
  k_with "subscriptTail Subscript Name Constant Constant ref int" => (fail_if_success have := @offH72); refine hold_intro ?_
  k_with "call builtin:list.extend" => (fail_if_success have := @offH72); refine hold_intro ?_
  k_with "exec Assign cons ListComp" => (fail_if_success have := @offH72); refine hold_intro ?_
  k_with "pyIter ref" => (fail_if_success have := @offH72); refine hold_intro ?_
  trivial
section
variable {w : World} {A A₀ : Around} {E : Value → Shared → Prop} {s : Shared} {h₀ : Heap} {L fa : Addr} {cd : Value} {m mg mb : Str → Option Value} {news : List (Addr × Obj)}
   {p : Program} {loose : List Str} {mean : ExcName → Option Value} {Q : Flow → Shared → Prop} {kind place value extra fg : Int} {sg : Str} {tk tt tp tv te tf ts th : Tok} {turn home : Nat}
   {T : Tb} {ps : Nat → List (Str × Value)} {r : Addr} {rk : Nat} {ra : Nat → Addr} {Rs : Nat → List Str} {TT tl dl : Addr} {tls dls : List Value} {fz : List (Addr × Obj)}
theorem law_end (S : Sit w A A₀ h₀ h₀ (envOfC (Str.ofString "law") lawScope L fa cd) [] L m p loose mean mg mb news s.heap 100) (hu : A.units + 70 < cLine)
   (X : LS w news T ps r rk ra (fun i => rowsL (ps i)) TT tl dl tls dls fz) (hal : Paired (Alike fz 2) tls dls) (hln : tls.length = 116) (hlen : ∀ h < 3, (ps h).length ≤ 26) (hr4 : ∀ h < 3, h ≠ 0 → (rowsL (ps h)).getD 4 default = Str.ofString "") (hE : Emp (fun i => rowsL (ps i)) 12)
   (m1 : m (Str.ofString "told") = some (.ref tl)) (m2 : m (Str.ofString "due") = some (.ref dl)) (m3 : m (Str.ofString "tables") = some (.ref TT)) (m4 : m (Str.ofString "rows") = some (.ref r)) (m5 : m (Str.ofString "given") = some (.ref (T.Lh 0)))
   (hQ : ∀ h' t' m' n', Fr h₀ L h' m' → News h₀ L h' n' → Q (.ret (.bool true)) {s with heap := h', toks := t'}) :
   wpAny (model pg w) A (execs (lawBody.drop 12) (envOfC (Str.ofString "law") lawScope L fa cd)) Q E s := by
  revert S
  conv in List.drop 12 lawBody => whnf
  conv in (occs := *) lawScope => all_goals whnf
  try dsimp only
  intro S
  obtain ⟨KX, T', B', F, N, hA, hf, hke, hroom, hh⟩ := S
  rw [← overA_eq (l := [(Str.ofString "told", .ref tl), (Str.ofString "due", .ref dl), (Str.ofString "tables", .ref TT), (Str.ofString "rows", .ref r), (Str.ofString "given", .ref (T.Lh 0))]) (M := m) (by simp only [List.forall_mem_cons]; exact ⟨m1, m2, m3, m4, m5, fun _ h => nomatch h⟩)] at F
  simp only [overA] at F
  have hu2 : A.units + 64 < cLine := room0 hu (by decide)
  have NK : News h₀ L s.heap news ∧ True := ⟨N, trivial⟩
  obtain ⟨k1, hto⟩ := X.to
  obtain ⟨k2, hdu⟩ := X.du
  obtain ⟨gits, gk, BG⟩ := X.H 0 (by decide)
  have hgl : (T.Lh 0, listOf gits gk) ∈ news := BG.hl
  have hgs : gits.size = (ps 0).length := BG.size
  k_steps
  refine hold_elim ?_
  refine wpAny_execs_cons ?_
  refine wpAny_If ?_
  k_steps
  refine hold_elim ?_
  rename News _ _ _ _ => N1
  refine ne_list_alike N1 hto hdu (Paired.imp hal fun _ _ h => Alike.mono X.fr h) hu2 (by decide) ?_
  k_steps
  refine hold_elim ?_
  rename News _ _ _ _ => N2
  rename Fr _ _ _ _ => F2
  refine' KMa.mul F2 N2 ⟨_, (N2 _ (.head _)).1, rfl, 0, rfl⟩ (by decide) (by decide) (by show 2 * 9 ≤ 256; decide) rfl ?_
  intro D3 h3 F3 N3 l3
  clear N2 F2
  obtain ⟨ws, hws⟩ : ∃ ws : List Value, ws = (List.replicate (Int.toNat 9) [Value.int 7 s.toks, Value.str (Str.ofString "three") (s.toks + 1)]).flatten := ⟨_, rfl⟩
  have hwl : ws.length = 18 := by rw [hws]; rfl
  have hwa : ws.toArray.size = 18 := by rw [List.size_toArray]; exact hwl
  rw [← hws] at N3
  k_steps
  refine hold_elim ?_
  obtain ⟨n3, sub3, N3', hD3⟩ : ∃ n3, (∀ q ∈ news, q ∈ n3) ∧ News h₀ L h3 n3 ∧ (D3, listOf ws.toArray 0) ∈ n3 := by
    refine ⟨_, ?_, N3, .head _⟩
    exact fun q hq => List.mem_cons_of_mem _ (List.mem_cons_of_mem _ hq)
  refine extend_L F3 N3' (sub3 _ hgl) hD3 (by rw [hwa, hgs]; have := hlen 0 (by decide); omega) ?_
  intro h4 k4 F4 N4
  have K4 : Kept (T.Lh 0) news (upd (T.Lh 0) (listOf (gits ++ ws.toArray) k4) n3) := fun p hp hne => Kept.upd p (sub3 p hp) hne
  have Z4 := X.H.sized NK.1 X.D hgl K4 (mem_upd_self (sub3 _ hgl))
  have hr4' := K4 _ X.R.hr (X.tL 0 (by decide)).2.2
  have R4 := (X.R.row 0 (by decide)).kept K4 (X.aL 0 0 (by decide) (by decide))
  obtain ⟨kT, hTT⟩ := X.tt
  have hT4 := K4 _ (X.fr _ hTT) ((X.off _ hTT).2.2.2.2 0 (by decide))
  rw [Array.size_append, hgs, hwa] at Z4
  clear K4 N3 N3' hD3 sub3 F3 l3
  generalize hn4 : upd (T.Lh 0) (listOf (gits ++ ws.toArray) k4) n3 = n4 at *
  k_steps
  refine hold_elim ?_
  rename News _ _ _ _ => N5
  have hb5 : ((rowsL (ps 0)).getD 4 default).length ≤ 26 := rowsL_bound (hlen 0 (by decide)) (by decide)
  refine row_pick4 N5 R4 ?_
  intro t5
  k_steps
  refine hold_elim ?_
  with_reducible refine' Assign_own (fun i zs n => StrsAre zs (List.replicate i listM)) ?F1 ?a1 ?hsw1 ?hclos1 ?hcell1 ?a2 ?hnames1 ?a3 ?a4 ?a5 ?src1 ?hfs1
  case F1 => k_asm
  case a1 => rfl
  case a2 => rfl
  case a3 => rfl
  case a4 => rfl
  case a5 => rfl
  case hsw1 => with_unfolding_all rfl
  case hclos1 => with_unfolding_all rfl
  case hcell1 => decide
  case hnames1 => decide
  case hfs1 => intro _; with_unfolding_all rfl
  case src1 =>
    k_steps
    refine hold_elim ?_
    rename News _ _ _ _ => N6
    rename Fr _ _ _ _ => F6
    rename_i tkk D0 h60 l60 D1 h61 l61 D2 h62 l62 h63 od lod hdd hff app l63 l7 h7 l64
    obtain ⟨n6, N7, sub6, its6, hl6, hsz6, hbad6⟩ : ∃ n6, News h₀ L h7 n6 ∧ (∀ q ∈ n4, q ∈ n6) ∧ ∃ its, (l7, listOf its 0) ∈ n6 ∧ its.size = 6 ∧ ∀ v ∈ its.toList, BadThing w n6 v := by
      obtain ⟨es, c, rfl⟩ := dict_is hdd
      obtain ⟨i1, c1, hT1, -, -⟩ := Z4 1 (by decide)
      refine ⟨_, N6, fun q hq => .tail _ (.tail _ (.tail _ (.tail _ (.tail _ hq)))), _, .head _, rfl, ?_⟩
      show ∀ v ∈ [_, _, _, _, _, _], _
      simp only [List.forall_mem_cons]
      exact ⟨.inr (.inr (.inl ⟨_, _, rfl, .tail _ (.tail _ (.tail _ (.tail _ (.head _))))⟩)), .inr (.inr (.inl ⟨_, _, rfl, .tail _ (.tail _ (.head _))⟩)), .inr (.inl ⟨_, _, rfl⟩), .inl ⟨_, _, rfl⟩, .inr (.inr (.inr (.inl ⟨_, _, _, rfl, .tail _ (.head _)⟩))), .inr (.inr (.inr (.inr ⟨_, _, rfl, hT1.mono fun q hq => .tail _ (.tail _ (.tail _ (.tail _ (.tail _ hq))))⟩))), fun _ h => nomatch h⟩
    clear hdd hff app N6 l60 l61 l62 l63 l64 lod
    refine' src_list (its := its6) (n := 0) hh F6 N7 hl6 (by rw [hsz6, sizeLine_eq]; decide) ?Qb
    case Qb =>
      intro I fp wr P St h₈ O hP
      refine ⟨I, fp, wr, _, P, St, h₈, _, _, rfl, rfl, O, .nil, ?_, ?_⟩
      · intro C i' v zs n₁ n₂ h tk m₃ E' hi' hPv hJ hz sub sub2 F N hn hm hC
        have hv := hP _ _ hPv
        rw [← Array.getElem?_toList] at hv
        have hb := hbad6 v (List.mem_of_getElem? hv)
        refine refused_elt ⟨KX, T', B', F, N, hA, hf, hke, room0 hroom (by decide), hh⟩ hu2 (hb.mono fun q hq => sub2 _ (sub _ hq)) rfl rfl rfl rfl hn hm ?_
        intro h' t' n' tw F' N' sub'
        refine ⟨_, _, [], rfl, F', news_mono N' sub', (fun q hq => nomatch hq), ?_⟩
        show StrsAre (zs ++ [_]) (List.replicate (i' + 1) _)
        rw [List.replicate_succ']
        exact strs_snoc hJ _ _
      · intro D zs k n₁ h' tk F' N' ne sub hJ hz
        rw [hsz6] at hJ
        have e0 : (ps 0).length = ((rowsL (ps 0)).getD 4 default).length := emp_len fun j hj => hE 0 j (by decide) hj (by omega)
        have e1 : (ps 1).length = 0 := by rw [emp_len fun j hj => hE 1 j (by decide) hj (by omega), hr4 1 (by decide) (by decide)]; rfl
        have e2 : (ps 2).length = 0 := by rw [emp_len fun j hj => hE 2 j (by decide) hj (by omega), hr4 2 (by decide) (by decide)]; rfl
        have ef : ((List.range 4).map fun t => (((if homeOf t = 0 then (ps 0).length + 18 else (ps (homeOf t)).length : Nat)) : Int)) = [((((rowsL (ps 0)).getD 4 default).length : Nat) : Int) + 18, ((((rowsL (ps 0)).getD 4 default).length : Nat) : Int) + 18, 0, 0] := by
          show [((((ps 0).length + 18 : Nat)) : Int), ((((ps 0).length + 18 : Nat)) : Int), (((ps 1).length : Nat) : Int), (((ps 2).length : Nat) : Int)] = _
          rw [e1, e2, e0]
          rfl
        have ZD : Sized w ((D, listOf zs.toArray k) :: n₁) T fun t => if homeOf t = 0 then (ps 0).length + 18 else (ps (homeOf t)).length := Z4.mono fun q hq => .tail _ (sub _ (sub6 _ hq))
        have hTD : (TT, listOf #[.ref (T.X 0), .ref (T.X 1), .ref (T.X 2), .ref (T.X 3)] kT) ∈ ((D, listOf zs.toArray k) :: n₁) := .tail _ (sub _ (sub6 _ hT4))
        have hDD : (D, listOf zs.toArray k) ∈ ((D, listOf zs.toArray k) :: n₁) := .head _
        generalize hn8 : ((D, listOf zs.toArray k) :: n₁) = n8 at N' ZD hTD hDD
        have hl8 : ∀ t < 4, (if homeOf t = 0 then (ps 0).length + 18 else (ps (homeOf t)).length) ≤ 1000 := fun t ht => by
          have h0 := hlen 0 (by decide)
          have h1 := hlen (homeOf t) (homeOf_lt ht)
          split <;> omega
        clear Z4 hT4 sub6 sub hl6 hbad6 hP O
        k_steps
        refine hold_elim ?_
        with_reducible refine' ListComp_own (fun i zs n => IntsAre zs ((List.range i).map fun t => (((if homeOf t = 0 then (ps 0).length + 18 else (ps (homeOf t)).length : Nat)) : Int))) ?F1 ?hclos6 ?hcell6 ?a6 ?hnames6 ?b6 ?src6 ?hfs6
        case F1 => k_asm
        case a6 => rfl
        case b6 => rfl
        case hclos6 => with_unfolding_all rfl
        case hcell6 => decide
        case hnames6 => decide
        case hfs6 => intro _; with_unfolding_all rfl
        case src6 =>
          k_steps
          refine hold_elim ?_
          rename News _ _ _ _ => N9
          rename Fr _ _ _ _ => F9
          refine' src_list (its := #[.ref (T.X 0), .ref (T.X 1), .ref (T.X 2), .ref (T.X 3)]) (n := kT) hh F9 N9 hTD (by rw [sizeLine_eq]; exact (by decide : 4 ≤ 16777216)) ?Qc
          case Qc =>
            intro I2 fp2 wr2 P2 St2 h₉ O2 hP2
            refine ⟨I2, fp2, wr2, _, P2, St2, h₉, _, _, rfl, rfl, O2, .nil, ?_, ?_⟩
            · intro C i' v zs n₁ n₂ h tk m₃ E' hi' hPv hJ hz sub sub2 F N hn hm hC
              have hi4 : i' < 4 := hi'
              have hv := hP2 _ _ hPv
              obtain ⟨ii, kk, hT, hl, hs⟩ := ZD i' hi4
              have ev : v = .ref (T.X i') := by rcases (nlt4 (by first | with_reducible assumption | omega) : i' = 0 ∨ i' = 1 ∨ i' = 2 ∨ i' = 3) with rfl | rfl | rfl | rfl <;> (cases hv; rfl)
              subst ev
              refine len_elt2 ⟨KX, T', B', F, N, hA, hf, hke, room0 hroom (by decide), hh⟩ (hT.mono fun q hq => sub2 _ (sub _ hq)) (sub2 _ (sub _ hl)) (by rw [hs]; exact hl8 i' hi4) rfl rfl rfl rfl rfl hn hm ?_
              intro h' t' tk F' N'
              refine ⟨_, _, [], rfl, F', N', (fun q hq => nomatch hq), ?_⟩
              show IntsAre (zs ++ [_]) ((List.range (i' + 1)).map _)
              rw [List.range_succ, List.map_append, hs]
              exact ints_snoc hJ _ _
            · intro D9 zs9 k9 n9 h9 tk9 F' N' ne9 sub9 hJ9 hz9
              have hJ9 : IntsAre zs9 ((List.range 4).map fun t => (((if homeOf t = 0 then (ps 0).length + 18 else (ps (homeOf t)).length : Nat)) : Int)) := hJ9
              rw [ef] at hJ9
              have hDD := sub9 _ hDD
              k_steps
              refine hold_elim ?_
              rename News _ _ _ _ => N10
              refine eq_own N10 (.tail _ (.head _)) (.head _) hJ9 (.cons _ _ (.cons _ _ (.cons _ _ (.cons _ _ .nil)))) hu2 rfl ?_
              k_steps
              refine hold_elim ?_
              rename News _ _ _ _ => N11
              rename Fr _ _ _ _ => F11
              refine' KMa.mul F11 N11 ⟨_, (N11 _ (.head _)).1, rfl, 0, rfl⟩ (by decide) (by decide) (by show 1 * 6 ≤ 256; decide) rfl ?_
              intro D12 h12 F12 N12 l12
              k_steps
              refine hold_elim ?_
              rename News _ _ _ _ => N13
              refine eq_list_alike (k := k) (x := zs.toArray) N13 ?i1 (.head _) (d := 0) (alike_strs hJ six_strs) hu2 (by decide) ?_
              case i1 => walk_at "kin"
              k_steps
              exact hQ _ _ _ _ (by assumption) (by assumption)
end
end
theorem offH72 : True := trivial
end
section
theorem kw95 : True := by
  w_top off
  trivial
section
theorem kw94 : True := by
  k_with "agree" => (fail_if_success have := @offH80); first | with_reducible assumption | exact Agree.start | (refine' Agree.set ?_ ?kww209; (case kww209 => decide); walk_at "agree") | (refine' Agree.same ?_ ?kww209; (case kww209 => with_reducible assumption); walk_at "agree")
  k_with "kin" => (fail_if_success have := @offH80); first | with_reducible assumption | exact List.Mem.head _ | (refine List.mem_cons_of_mem _ ?_; walk_at "kin")
  k_with "subscriptTail Name Constant ref int" => (fail_if_success have := @offH80); (refine' item_at ?Nw211 ?hlw211 ?hvw211 ?h0w211 ?hzw211 ?_; (case hvw211 => with_reducible assumption); (case Nw211 => k_asm); (case hlw211 => k_mem); (case h0w211 => decide); (case hzw211 => decide))
  k_with "execs cons" => (fail_if_success have := @offH80); ((with_reducible show wpAny _ _ (execs (Stmt.Assign [Expr.Name (Str.ofString "tables") _] _ _ :: _) _) _ _ _); refine hold_intro ?_)
  k_with "subscriptTail List Slice ref slice" => (fail_if_success have := @offH80); refine hold_intro ?_
  trivial
section
variable {w : World} {A A₀ : Around} {E : Value → Shared → Prop} {s : Shared} {h₀ : Heap} {L fa : Addr} {cd : Value} {m mg mb : Str → Option Value} {news : List (Addr × Obj)}
   {p : Program} {loose : List Str} {mean : ExcName → Option Value} {Q : Flow → Shared → Prop} {kind place value extra fg : Int} {sg : Str} {tk tt tp tv te tf ts th : Tok} {turn home : Nat}
   {T : Tb} {ps : Nat → List (Str × Value)} {r : Addr} {rk : Nat} {ra : Nat → Addr} {Rs : Nat → List Str} {TT tl dl : Addr} {tls dls : List Value} {fz : List (Addr × Obj)}
   {lc : Addr} {cits : Array Value} {cn : Nat} {cs : List Int}
theorem law_a (S : Sit w A A₀ h₀ h₀ (envOfC (Str.ofString "law") lawScope L fa cd) [] L m p loose mean mg mb news s.heap 100) (hu : A.units + 70 < cLine)
   (hlc : (lc, listOf cits cn) ∈ news) (hci : IntsAre cits.toList cs) (hcl : cs.length = 10)
   (m1 : m (Str.ofString "cells") = some (.ref lc))
   (h : ∀ h1 t1 m1 news1 lg gits tc c g0 g1 g2, c < 4 → Fr h₀ L h1 m1 → News h₀ L h1 news1 → (∀ q ∈ news, q ∈ news1) → Agree [Str.ofString "count", Str.ofString "given"] m m1 → m1 (Str.ofString "count") = some (.int (c : Nat) tc) → m1 (Str.ofString "given") = some (.ref lg) → (lg, listOf gits 0) ∈ news1 → PairsN news1 gits.toList ((givenL g0 g1 g2).take c) → wpAny (model pg w) A (execs (lawBody.drop 5) (envOfC (Str.ofString "law") lawScope L fa cd)) Q E {s with heap := h1, toks := t1}) :
   wpAny (model pg w) A (execs (lawBody.drop 3) (envOfC (Str.ofString "law") lawScope L fa cd)) Q E s := by
  revert S
  conv in List.drop 3 lawBody => whnf
  conv in (occs := *) lawScope => all_goals whnf
  try dsimp only
  intro S
  obtain ⟨KX, T', B', F, N, hA, hf, hke, hroom, hh⟩ := S
  rw [← overA_eq (l := [(Str.ofString "cells", .ref lc)]) (M := m) (by simp only [List.forall_mem_cons]; exact ⟨m1, fun _ h => nomatch h⟩)] at F
  simp only [overA] at F
  obtain ⟨c0, hc0⟩ : ∃ c0, cs[0]? = some c0 := ⟨_, List.getElem?_eq_getElem (by omega)⟩
  obtain ⟨t0, e0⟩ : ∃ t, cits.toList[(0 : Int).toNat]? = some (.int c0 t) := ints_at hci hc0
  obtain ⟨c, hc4, hc⟩ : ∃ c : Nat, c < 4 ∧ (c0.fdiv 16384).fmod 4 = (c : Int) := by
    have h1 := Int.fmod_nonneg_of_pos (c0.fdiv 16384) (by decide : (0 : Int) < 4)
    have h2 := Int.fmod_lt_of_pos (c0.fdiv 16384) (by decide : (0 : Int) < 4)
    exact ⟨((c0.fdiv 16384).fmod 4).toNat, by omega, by omega⟩
  k_steps
  refine hold_elim ?_
  rename News _ _ _ _ => N1
  rename Fr _ _ _ _ => F1
  rename_i h2 D0 h3 l0 D1 h4 l1 D2 h5 l2 l5 h6 l3 h7 h8
  exact h _ _ _ _ _ _ _ c _ _ _ hc4 F1 N1 (fun q hq => .tail _ (.tail _ (.tail _ (.tail _ (.tail _ hq))))) (by walk_at "agree") (by rw [← hc]; rfl) rfl (.head _) (given_cut hc hc4 (.tail _ (.tail _ (.tail _ (.tail _ (.head _))))) (.tail _ (.tail _ (.tail _ (.head _)))) (.tail _ (.tail _ (.head _))))
end
end
theorem offH80 : True := trivial
end
section
theorem kw97 : True := by
  w_top off
  trivial
section
theorem kw96 : True := by
  k_with "agree" => (fail_if_success have := @offH81); first | with_reducible assumption | exact Agree.start | (refine' Agree.set ?_ ?kww214; (case kww214 => decide); walk_at "agree") | (refine' Agree.same ?_ ?kww214; (case kww214 => with_reducible assumption); walk_at "agree")
  k_with "kin" => (fail_if_success have := @offH81); first | with_reducible assumption | exact List.Mem.head _ | (refine List.mem_cons_of_mem _ ?_; walk_at "kin")
  k_with "subscriptTail Name Constant ref int" => (fail_if_success have := @offH81); (refine' item_at ?Nw216 ?hlw216 ?hvw216 ?h0w216 ?hzw216 ?_; (case hvw216 => with_reducible assumption); (case Nw216 => k_asm); (case hlw216 => k_mem); (case h0w216 => decide); (case hzw216 => decide))
  k_with "call ref" => (fail_if_success have := @offH81); ((with_reducible show wpAny _ _ (call (Value.ref 184) _) _ _ _); refine hold_intro ?_)
  k_with "execs cons" => (fail_if_success have := @offH81); ((with_reducible show wpAny _ _ (execs (Stmt.Assign [Expr.Name (Str.ofString "rows") _] _ _ :: _) _) _ _ _); refine hold_intro ?_)
  trivial
section
variable {w : World} {A A₀ : Around} {E : Value → Shared → Prop} {s : Shared} {h₀ : Heap} {L fa : Addr} {cd : Value} {m mg mb : Str → Option Value} {news : List (Addr × Obj)}
   {p : Program} {loose : List Str} {mean : ExcName → Option Value} {Q : Flow → Shared → Prop} {kind place value extra fg : Int} {sg : Str} {tk tt tp tv te tf ts th : Tok} {turn home : Nat}
   {T : Tb} {ps : Nat → List (Str × Value)} {r : Addr} {rk : Nat} {ra : Nat → Addr} {Rs : Nat → List Str} {TT tl dl : Addr} {tls dls : List Value} {fz : List (Addr × Obj)}
theorem law_b (S : Sit w A A₀ h₀ h₀ (envOfC (Str.ofString "law") lawScope L fa cd) [] L m p loose mean mg mb news s.heap 100) (hu : A.units + 70 < cLine)
   {lg : Addr} {gits : Array Value} {ps0 : List (Str × Value)} (hlg : (lg, listOf gits 0) ∈ news) (P : PairsN news gits.toList ps0) (h10 : ps0.length ≤ 1000) (hbig : ∀ q ∈ ps0, VBig q.2) (hgood : ∀ q ∈ ps0, goodPr q)
   (m1 : m (Str.ofString "given") = some (.ref lg))
   (h : ∀ h1 t1 m1 news1 TT T, Fr h₀ L h1 m1 → News h₀ L h1 news1 → (∀ q ∈ news, q ∈ news1) → Agree [Str.ofString "tables"] m m1 → m1 (Str.ofString "tables") = some (.ref TT) → (TT, listOf #[.ref (T.X 0), .ref (T.X 1), .ref (T.X 2), .ref (T.X 3)] 0) ∈ news1 → T.Lh 0 = lg → (∀ i < 3, T.Lh i ≠ TT) → T.Apart → Homes w news1 T (fun i => if i = 0 then ps0 else []) → wpAny (model pg w) A (execs (lawBody.drop 6) (envOfC (Str.ofString "law") lawScope L fa cd)) Q E {s with heap := h1, toks := t1}) :
   wpAny (model pg w) A (execs (lawBody.drop 5) (envOfC (Str.ofString "law") lawScope L fa cd)) Q E s := by
  revert S
  conv in List.drop 5 lawBody => whnf
  conv in (occs := *) lawScope => all_goals whnf
  try dsimp only
  intro S
  obtain ⟨KX, T', B', F, N, hA, hf, hke, hroom, hh⟩ := S
  rw [← overA_eq (l := [(Str.ofString "given", .ref lg)]) (M := m) (by simp only [List.forall_mem_cons]; exact ⟨m1, fun _ h => nomatch h⟩)] at F
  simp only [overA] at F
  have hsz : gits.size ≤ 1000 := by rw [← Array.length_toList, paired_len' P]; exact h10
  k_steps
  refine hold_elim ?_
  k_dflt (refine' init_any ?Si hlg hsz P hbig ?_ ?_ ?_; (case Si => walk_at "mk_sit"))
  rotate_left
  · exact fun n => absurd hgood n
  · exact fun n => absurd hgood n
  intro _ x0 d0 h1 t1 tl0 F1 N1 ld0 lx0
  k_steps
  refine hold_elim ?_
  k_dflt (refine' init_any ?Si (List.mem_cons_of_mem _ (List.mem_cons_of_mem _ hlg)) hsz (P.mono fun q hq => .tail _ (.tail _ hq)) hbig ?_ ?_ ?_; (case Si => walk_at "mk_sit"))
  rotate_left
  · exact fun n => absurd hgood n
  · exact fun n => absurd hgood n
  intro _ x1 d1 h2 t2 tl1 F2 N2 ld1 lx1
  k_steps
  refine hold_elim ?_
  k_dflt (refine' init_new0 ?Si ?_; (case Si => walk_at "mk_sit"))
  intro l2 x2 d2 h3 t3 tl2 F3 N3 ld2 dx2 xl2
  k_steps
  refine hold_elim ?_
  k_dflt (refine' init_new1 ?Si ?_; (case Si => walk_at "mk_sit"))
  intro l3 x3 d3 h4 t4 tl3 F4 N4 ld3 dx3 xl3
  k_steps
  refine hold_elim ?_
  rename News _ _ _ _ => N5
  rename Fr _ _ _ _ => F5
  rename_i TT h5 l5 h6
  have g2 : lg < l2 := Nat.lt_trans (ld2 _ (.tail _ (.tail _ (.tail _ (.tail _ hlg))))) (Nat.lt_trans dx2 xl2)
  have g3 : lg < l3 := Nat.lt_trans (ld3 _ (.tail _ (.tail _ (.tail _ (.tail _ (.tail _ (.tail _ (.tail _ hlg)))))))) (Nat.lt_trans dx3 xl3)
  have g23 : l2 < l3 := Nat.lt_trans (ld3 _ (.head _)) (Nat.lt_trans dx3 xl3)
  have gT : l3 < TT := l5.1
  obtain ⟨T, rfl, rfl, rfl, rfl, rfl, rfl, rfl, rfl, rfl, rfl, rfl, rfl, rfl, rfl, rfl⟩ : ∃ T : Tb, T.X 0 = x0 ∧ T.X 1 = x1 ∧ T.X 2 = x2 ∧ T.X 3 = x3 ∧ T.Lh 0 = lg ∧ T.Lh 1 = l2 ∧ T.Lh 2 = l3 ∧ T.Dd 0 = d0 ∧ T.Dd 1 = d1 ∧ T.Dd 2 = d2 ∧ T.Dd 3 = d3 ∧ T.TL 0 = tl0 ∧ T.TL 1 = tl1 ∧ T.TL 2 = tl2 ∧ T.TL 3 = tl3 := ⟨⟨fun t => match t with | 0 => x0 | 1 => x1 | 2 => x2 | _ => x3, fun i => match i with | 0 => lg | 1 => l2 | _ => l3, fun t => match t with | 0 => d0 | 1 => d1 | 2 => d2 | _ => d3, fun t => match t with | 0 => tl0 | 1 => tl1 | 2 => tl2 | _ => tl3⟩, rfl, rfl, rfl, rfl, rfl, rfl, rfl, rfl, rfl, rfl, rfl, rfl, rfl, rfl, rfl⟩
  refine @h _ _ _ _ TT T F5 N5 (fun q hq => .tail _ (.tail _ (.tail _ (.tail _ (.tail _ (.tail _ (.tail _ (.tail _ (.tail _ (.tail _ (.tail _ hq))))))))))) (by walk_at "agree") rfl (.head _) rfl ?_ ?_ ?_
  · intro i hi
    rcases (nlt3 (by first | with_reducible assumption | omega) : i = 0 ∨ i = 1 ∨ i = 2) with rfl | rfl | rfl
    · exact Nat.ne_of_lt (Nat.lt_trans g3 gT)
    · exact Nat.ne_of_lt (Nat.lt_trans g23 gT)
    · exact Nat.ne_of_lt gT
  · exact apart3 (Nat.ne_of_lt g2) (Nat.ne_of_lt g3) (Nat.ne_of_lt g23)
  · intro t ht
    rcases (nlt4 (by first | with_reducible assumption | omega) : t = 0 ∨ t = 1 ∨ t = 2 ∨ t = 3) with rfl | rfl | rfl | rfl
    · exact ⟨gits, 0, (⟨.tail _ (.tail _ (.tail _ (.tail _ (.tail _ (.tail _ (.tail _ (.tail _ (.tail _ (.head _))))))))), .tail _ (.tail _ (.tail _ (.tail _ (.tail _ (.tail _ (.tail _ (.tail _ (.tail _ (.tail _ (.head _)))))))))), .tail _ (.tail _ (.tail _ (.tail _ (.tail _ (.tail _ (.tail _ (.tail _ (.tail _ (.tail _ (.tail _ (hlg))))))))))), P.mono fun q hq => .tail _ (.tail _ (.tail _ (.tail _ (.tail _ (.tail _ (.tail _ (.tail _ (.tail _ (.tail _ (.tail _ (hq))))))))))), h10⟩ : Box w _ (T.X 0) (T.Lh 0) (T.Dd 0) (T.TL 0) gits 0 ps0)⟩
    · exact ⟨gits, 0, (⟨.tail _ (.tail _ (.tail _ (.tail _ (.tail _ (.tail _ (.tail _ (.head _))))))), .tail _ (.tail _ (.tail _ (.tail _ (.tail _ (.tail _ (.tail _ (.tail _ (.head _)))))))), .tail _ (.tail _ (.tail _ (.tail _ (.tail _ (.tail _ (.tail _ (.tail _ (.tail _ (.tail _ (.tail _ (hlg))))))))))), P.mono fun q hq => .tail _ (.tail _ (.tail _ (.tail _ (.tail _ (.tail _ (.tail _ (.tail _ (.tail _ (.tail _ (.tail _ (hq))))))))))), h10⟩ : Box w _ (T.X 1) (T.Lh 0) (T.Dd 1) (T.TL 1) gits 0 ps0)⟩
    · exact ⟨#[], 0, (⟨.tail _ (.tail _ (.tail _ (.tail _ (.tail _ (.head _))))), .tail _ (.tail _ (.tail _ (.tail _ (.tail _ (.tail _ (.head _)))))), .tail _ (.tail _ (.tail _ (.tail _ (.head _)))), .nil, by decide⟩ : Box w _ (T.X 2) (T.Lh 1) (T.Dd 2) (T.TL 2) #[] 0 [])⟩
    · exact ⟨#[], 0, (⟨.tail _ (.tail _ (.head _)), .tail _ (.tail _ (.tail _ (.head _))), .tail _ (.head _), .nil, by decide⟩ : Box w _ (T.X 3) (T.Lh 2) (T.Dd 3) (T.TL 3) #[] 0 [])⟩
end
end
theorem offH81 : True := trivial
end
section
theorem kw99 : True := by
  w_top off
  trivial
section
theorem kw98 : True := by
  k_with "agree" => (fail_if_success have := @offH82); first | with_reducible assumption | exact Agree.start | (refine' Agree.set ?_ ?kww219; (case kww219 => decide); walk_at "agree") | (refine' Agree.same ?_ ?kww219; (case kww219 => with_reducible assumption); walk_at "agree")
  k_with "kin" => (fail_if_success have := @offH82); first | with_reducible assumption | exact List.Mem.head _ | (refine List.mem_cons_of_mem _ ?_; walk_at "kin")
  k_with "execs cons" => (fail_if_success have := @offH82); ((with_reducible show wpAny _ _ (execs (Stmt.Assign [Expr.Name (Str.ofString "told") _] _ _ :: _) _) _ _ _); refine hold_intro ?_)
  trivial
section
variable {w : World} {A A₀ : Around} {E : Value → Shared → Prop} {s : Shared} {h₀ : Heap} {L fa : Addr} {cd : Value} {m mg mb : Str → Option Value} {news : List (Addr × Obj)}
   {p : Program} {loose : List Str} {mean : ExcName → Option Value} {Q : Flow → Shared → Prop} {kind place value extra fg : Int} {sg : Str} {tk tt tp tv te tf ts th : Tok} {turn home : Nat}
   {T : Tb} {ps : Nat → List (Str × Value)} {r : Addr} {rk : Nat} {ra : Nat → Addr} {Rs : Nat → List Str} {TT tl dl : Addr} {tls dls : List Value} {fz : List (Addr × Obj)}
theorem law_c (S : Sit w A A₀ h₀ h₀ (envOfC (Str.ofString "law") lawScope L fa cd) [] L m p loose mean mg mb news s.heap 100) (hu : A.units + 70 < cLine)
   {c : Nat} {tc : Tok} (hc : c < 4)
   (m1 : m (Str.ofString "count") = some (.int (c : Nat) tc))
   (h : ∀ h1 t1 m1 news1 r ra, Fr h₀ L h1 m1 → News h₀ L h1 news1 → (∀ q ∈ news, q ∈ news1) → Agree [Str.ofString "rows"] m m1 → m1 (Str.ofString "rows") = some (.ref r) → RowsAt news1 r 0 ra (fun i => if i = 0 then [ofL (List.replicate ((c + 1) / 2) 120), Str.ofString "", ofL (List.replicate (c / 2) 120), Str.ofString "", Str.ofString ""] else [Str.ofString "", Str.ofString "", Str.ofString "", Str.ofString "", Str.ofString ""]) → (∀ q ∈ news, q.1 ≠ r ∧ ∀ i < 3, q.1 ≠ ra i) → wpAny (model pg w) A (execs (lawBody.drop 7) (envOfC (Str.ofString "law") lawScope L fa cd)) Q E {s with heap := h1, toks := t1}) :
   wpAny (model pg w) A (execs (lawBody.drop 6) (envOfC (Str.ofString "law") lawScope L fa cd)) Q E s := by
  revert S
  conv in List.drop 6 lawBody => whnf
  conv in (occs := *) lawScope => all_goals whnf
  try dsimp only
  intro S
  obtain ⟨KX, T', B', F, N, hA, hf, hke, hroom, hh⟩ := S
  rw [← overA_eq (l := [(Str.ofString "count", .int (c : Nat) tc)]) (M := m) (by simp only [List.forall_mem_cons]; exact ⟨m1, fun _ h => nomatch h⟩)] at F
  simp only [overA] at F
  have x1 : Txt.slice (Str.ofString "xx") none (some (((c : Int) + 1).fdiv 2)) = ofL (List.replicate ((c + 1) / 2) 120) := by
    rcases (nlt4 (by first | with_reducible assumption | omega) : c = 0 ∨ c = 1 ∨ c = 2 ∨ c = 3) with rfl | rfl | rfl | rfl <;> decide +kernel
  have x2 : Txt.slice (Str.ofString "x") none (some ((c : Int).fdiv 2)) = ofL (List.replicate (c / 2) 120) := by
    rcases (nlt4 (by first | with_reducible assumption | omega) : c = 0 ∨ c = 1 ∨ c = 2 ∨ c = 3) with rfl | rfl | rfl | rfl <;> decide +kernel
  k_steps
  refine hold_elim ?_
  rename News _ _ _ _ => N1
  rename Fr _ _ _ _ => F1
  rename_i hA1 tA1 kA1 hA2 tA2 kA2 l0 h0 g0 l1 hB1 g1 l2 hB2 g2 r hB3 g3 hB4
  rw [x1, x2] at N1
  obtain ⟨ra, rfl, rfl, rfl⟩ : ∃ ra : Nat → Addr, ra 0 = l0 ∧ ra 1 = l1 ∧ ra 2 = l2 := ⟨fun i => match i with | 0 => l0 | 1 => l1 | _ => l2, rfl, rfl, rfl⟩
  refine h _ _ _ _ r ra F1 N1 (fun q hq => .tail _ (.tail _ (.tail _ (.tail _ hq)))) (by walk_at "agree") rfl ⟨.head _, ?_, ?_, ?_⟩ ?_
  · intro i hi
    rcases (nlt3 (by first | with_reducible assumption | omega) : i = 0 ∨ i = 1 ∨ i = 2) with rfl | rfl | rfl
    · exact ⟨rfl, _, _, .tail _ (.tail _ (.tail _ (.head _))), .cons _ _ (.cons _ _ (.cons _ _ (.cons _ _ (.cons _ _ .nil))))⟩
    · exact ⟨rfl, _, _, .tail _ (.tail _ (.head _)), .cons _ _ (.cons _ _ (.cons _ _ (.cons _ _ (.cons _ _ .nil))))⟩
    · exact ⟨rfl, _, _, .tail _ (.head _), .cons _ _ (.cons _ _ (.cons _ _ (.cons _ _ (.cons _ _ .nil))))⟩
  · intro i hi
    rcases (nlt3 (by first | with_reducible assumption | omega) : i = 0 ∨ i = 1 ∨ i = 2) with rfl | rfl | rfl
    · exact Nat.ne_of_gt g3.2.2.1
    · exact Nat.ne_of_gt g3.2.1
    · exact Nat.ne_of_gt g3.1
  · exact apart3 (Nat.ne_of_lt g1.1) (Nat.ne_of_lt g2.2.1) (Nat.ne_of_lt g2.1)
  · intro q hq
    have e0 := g0 q hq
    refine ⟨Nat.ne_of_lt (Nat.lt_trans e0 g3.2.2.1), fun i hi => ?_⟩
    rcases (nlt3 (by first | with_reducible assumption | omega) : i = 0 ∨ i = 1 ∨ i = 2) with rfl | rfl | rfl
    · exact Nat.ne_of_lt e0
    · exact Nat.ne_of_lt (Nat.lt_trans e0 g1.1)
    · exact Nat.ne_of_lt (Nat.lt_trans e0 g2.2.1)
end
end
theorem offH82 : True := trivial
end
section
theorem kw101 : True := by
  w_top off
  trivial
section
theorem kw100 : True := by
  k_with "agree" => (fail_if_success have := @offH83); first | with_reducible assumption | exact Agree.start | (refine' Agree.set ?_ ?kww222; (case kww222 => decide); walk_at "agree") | (refine' Agree.same ?_ ?kww222; (case kww222 => with_reducible assumption); walk_at "agree")
  k_with "kin" => (fail_if_success have := @offH83); first | with_reducible assumption | exact List.Mem.head _ | (refine List.mem_cons_of_mem _ ?_; walk_at "kin")
  k_with "execs cons" => (fail_if_success have := @offH83); ((with_reducible show wpAny _ _ (execs (Stmt.Assign [Expr.Name (Str.ofString "deeds") _] _ _ :: _) _) _ _ _); refine hold_intro ?_)
  k_with "pyIter ref" => (fail_if_success have := @offH83); refine hold_intro ?_
  trivial
section
variable {w : World} {A A₀ : Around} {E : Value → Shared → Prop} {s : Shared} {h₀ : Heap} {L fa : Addr} {cd : Value} {m mg mb : Str → Option Value} {news : List (Addr × Obj)}
   {p : Program} {loose : List Str} {mean : ExcName → Option Value} {Q : Flow → Shared → Prop} {kind place value extra fg : Int} {sg : Str} {tk tt tp tv te tf ts th : Tok} {turn home : Nat}
   {T : Tb} {ps : Nat → List (Str × Value)} {r : Addr} {rk : Nat} {ra : Nat → Addr} {Rs : Nat → List Str} {TT tl dl : Addr} {tls dls : List Value} {fz : List (Addr × Obj)}
theorem law_d (S : Sit w A A₀ h₀ h₀ (envOfC (Str.ofString "law") lawScope L fa cd) [] L m p loose mean mg mb news s.heap 100) (hu : A.units + 70 < cLine)
   {c kT : Nat} {tc : Tok} (hT : (TT, listOf #[.ref (T.X 0), .ref (T.X 1), .ref (T.X 2), .ref (T.X 3)] kT) ∈ news) (H : Homes w news T ps) (e0 : (ps 0).length = c) (e1 : (ps 1).length = 0) (e2 : (ps 2).length = 0)
   (m1 : m (Str.ofString "tables") = some (.ref TT)) (m2 : m (Str.ofString "count") = some (.int (c : Nat) tc))
   (h : ∀ h1 t1 m1 news1 tl dl a b ai bi ka kb zs, Fr h₀ L h1 m1 → News h₀ L h1 news1 → (∀ q ∈ news, q ∈ news1) → Agree [Str.ofString "told", Str.ofString "due"] m m1 → m1 (Str.ofString "told") = some (.ref tl) → m1 (Str.ofString "due") = some (.ref dl) → (tl, listOf #[.ref a] 0) ∈ news1 → (dl, listOf #[.ref b] 0) ∈ news1 → (a, listOf ai ka) ∈ news1 → (b, listOf bi kb) ∈ news1 → IntsAre ai.toList zs → IntsAre bi.toList zs → (∀ q ∈ news, q.1 ≠ tl ∧ q.1 ≠ dl ∧ q.1 ≠ a ∧ q.1 ≠ b) → tl ≠ dl → a ≠ tl → a ≠ dl → b ≠ tl → b ≠ dl → wpAny (model pg w) A (execs (lawBody.drop 9) (envOfC (Str.ofString "law") lawScope L fa cd)) Q E {s with heap := h1, toks := t1}) :
   wpAny (model pg w) A (execs (lawBody.drop 7) (envOfC (Str.ofString "law") lawScope L fa cd)) Q E s := by
  revert S
  conv in List.drop 7 lawBody => whnf
  conv in (occs := *) lawScope => all_goals whnf
  try dsimp only
  intro S
  obtain ⟨KX, T', B', F, N, hA, hf, hke, hroom, hh⟩ := S
  rw [← overA_eq (l := [(Str.ofString "tables", .ref TT), (Str.ofString "count", .int (c : Nat) tc)]) (M := m) (by simp only [List.forall_mem_cons]; exact ⟨m1, m2, fun _ h => nomatch h⟩)] at F
  simp only [overA] at F
  have ef : ((List.range 4).map fun x => ((ps (homeOf x)).length : Int)) = [(c : Int), (c : Int), 0, 0] := by
    show [((ps 0).length : Int), ((ps 0).length : Int), ((ps 1).length : Int), ((ps 2).length : Int)] = _
    rw [e0, e1, e2]
    rfl
  k_steps
  refine hold_elim ?_
  with_reducible refine' ListComp_own (fun i zs n => IntsAre zs ((List.range i).map fun x => ((ps (homeOf x)).length : Int))) ?F1 ?hclos6 ?hcell6 ?a6 ?hnames6 ?b6 ?src6 ?hfs6
  case F1 => k_asm
  case a6 => rfl
  case b6 => rfl
  case hclos6 => with_unfolding_all rfl
  case hcell6 => decide
  case hnames6 => decide
  case hfs6 => intro _; with_unfolding_all rfl
  case src6 =>
    k_steps
    refine hold_elim ?_
    rename News _ _ _ _ => N9
    rename Fr _ _ _ _ => F9
    refine' src_list (its := #[.ref (T.X 0), .ref (T.X 1), .ref (T.X 2), .ref (T.X 3)]) (n := kT) hh F9 N9 hT (by rw [sizeLine_eq]; exact (by decide : 4 ≤ 16777216)) ?Qc
    case Qc =>
      intro I fp wr P St h₈ O hP
      refine ⟨I, fp, wr, _, P, St, h₈, _, _, rfl, rfl, O, .nil, ?_, ?_⟩
      · intro C i' v zs n₁ n₂ h tk m₃ E' hi' hPv hJ hz sub sub2 F N hn hm hC
        have hi4 : i' < 4 := hi'
        have hv := hP _ _ hPv
        obtain ⟨ii, kk, B⟩ := H i' hi4
        have ev : v = .ref (T.X i') := by rcases (nlt4 (by first | with_reducible assumption | omega) : i' = 0 ∨ i' = 1 ∨ i' = 2 ∨ i' = 3) with rfl | rfl | rfl | rfl <;> (cases hv; rfl)
        subst ev
        refine len_elt ⟨KX, T', B', F, N, hA, hf, hke, room0 hroom (by decide), hh⟩ (B.mono fun q hq => sub2 _ (sub _ hq)) rfl rfl rfl rfl rfl hn hm ?_
        intro h' t' tk F' N'
        refine ⟨_, _, [], rfl, F', N', (fun q hq => nomatch hq), ?_⟩
        show IntsAre (zs ++ [_]) ((List.range (i' + 1)).map _)
        rw [List.range_succ, List.map_append]
        exact ints_snoc hJ _ _
      · intro D zs k n₁ h' tk F' N' ne sub hJ hz
        have hJ2 : IntsAre zs ((List.range 4).map fun x => ((ps (homeOf x)).length : Int)) := hJ
        rw [ef] at hJ2
        k_steps
        refine hold_elim ?_
        rename News _ _ _ _ => N1
        rename Fr _ _ _ _ => F1
        rename_i tl hB1 g1 hB2 b hB3 g2 dl hB4 g3 hB5
        refine h _ _ _ _ tl dl D b _ _ _ _ _ F1 N1 (fun q hq => .tail _ (.tail _ (.tail _ (.tail _ (sub q hq))))) (by walk_at "agree") rfl rfl (.tail _ (.tail _ (.head _))) (.head _) (.tail _ (.tail _ (.tail _ (.head _)))) (.tail _ (.head _)) hJ2 (.cons _ _ (.cons _ _ (.cons _ _ (.cons _ _ .nil)))) (fun q hq => ?_) (Nat.ne_of_lt g3.2.1) (Nat.ne_of_lt g1.1) (Nat.ne_of_lt g3.2.2.1) (Nat.ne_of_gt g2.1) (Nat.ne_of_lt g3.1)
        have q1 := sub q hq
        exact ⟨Nat.ne_of_lt (kst_ltOf g1.2 q q1), Nat.ne_of_lt (kst_ltOf g3.2.2.2 q q1), ne q q1, Nat.ne_of_lt (kst_ltOf g2.2.2 q q1)⟩
end
end
theorem offH83 : True := trivial
end
section
theorem kw103 : True := by
  w_top off
  trivial
section
theorem kw102 : True := by
  k_with "agree" => (fail_if_success have := @offH84); first | with_reducible assumption | exact Agree.start | (refine' Agree.set ?_ ?kww226; (case kww226 => decide); walk_at "agree") | (refine' Agree.same ?_ ?kww226; (case kww226 => with_reducible assumption); walk_at "agree")
  k_with "kin" => (fail_if_success have := @offH84); first | with_reducible assumption | exact List.Mem.head _ | (refine List.mem_cons_of_mem _ ?_; walk_at "kin")
  k_with "execs cons" => (fail_if_success have := @offH84); ((with_reducible show wpAny _ _ (execs (Stmt.Assign [Expr.Name (Str.ofString "ends") _] _ _ :: _) _) _ _ _); refine hold_intro ?_)
  k_with "exec Assign cons ListComp" => (fail_if_success have := @offH84); refine hold_intro ?_
  k_with "pyIter ref" => (fail_if_success have := @offH84); refine hold_intro ?_
  trivial
section
variable {w : World} {A A₀ : Around} {E : Value → Shared → Prop} {s : Shared} {h₀ : Heap} {L fa : Addr} {cd : Value} {m mg mb : Str → Option Value} {news : List (Addr × Obj)}
   {p : Program} {loose : List Str} {mean : ExcName → Option Value} {Q : Flow → Shared → Prop} {kind place value extra fg : Int} {sg : Str} {tk tt tp tv te tf ts th : Tok} {turn home : Nat}
   {T : Tb} {ps : Nat → List (Str × Value)} {r : Addr} {rk : Nat} {ra : Nat → Addr} {Rs : Nat → List Str} {TT tl dl : Addr} {tls dls : List Value} {fz : List (Addr × Obj)}
   {lc : Addr} {cits : Array Value} {cn : Nat} {cs : List Int}
theorem law_e (S : Sit w A A₀ h₀ h₀ (envOfC (Str.ofString "law") lawScope L fa cd) [] L m p loose mean mg mb news s.heap 100) (hu : A.units + 70 < cLine)
   (hlc : (lc, listOf cits cn) ∈ news) (hci : IntsAre cits.toList cs) (hcl : cs.length = 10)
   (m1 : m (Str.ofString "cells") = some (.ref lc))
   (h : ∀ h1 t1 m1 news1 ld dits dk dq tz, Fr h₀ L h1 m1 → News h₀ L h1 news1 → (∀ q ∈ news, q ∈ news1) → Agree [Str.ofString "deeds"] m m1 → m1 (Str.ofString "deeds") = some (.ref ld) → (ld, listOf dits dk) ∈ news1 → Paired (SixAt tz) dits.toList dq → dq.length = 10 → (∀ q ∈ dq, SixOk q) → (∀ p ∈ tz, p ∈ news1) → (∀ p ∈ tz, p.2.cls = .type "tuple" ∧ isIter p.2 = false) → wpAny (model pg w) A (execs (lawBody.drop 10) (envOfC (Str.ofString "law") lawScope L fa cd)) Q E {s with heap := h1, toks := t1}) :
   wpAny (model pg w) A (execs (lawBody.drop 9) (envOfC (Str.ofString "law") lawScope L fa cd)) Q E s := by
  revert S
  conv in List.drop 9 lawBody => whnf
  conv in (occs := *) lawScope => all_goals whnf
  try dsimp only
  intro S
  obtain ⟨KX, T', B', F, N, hA, hf, hke, hroom, hh⟩ := S
  rw [← overA_eq (l := [(Str.ofString "cells", .ref lc)]) (M := m) (by simp only [List.forall_mem_cons]; exact ⟨m1, fun _ h => nomatch h⟩)] at F
  simp only [overA] at F
  have hcs : cits.size = 10 := by rw [← Array.length_toList, IntsAre.length hci]; exact hcl
  k_steps
  refine hold_elim ?_
  with_reducible refine' Assign_own (SixJ fun i => sixOf (cs.getD i 0)) ?F1 ?a1 ?hsw1 ?hclos1 ?hcell1 ?a2 ?hnames1 ?a3 ?a4 ?a5 ?src1 ?hfs1
  case F1 => k_asm
  case a1 => rfl
  case a2 => rfl
  case a3 => rfl
  case a4 => rfl
  case a5 => rfl
  case hsw1 => with_unfolding_all rfl
  case hclos1 => with_unfolding_all rfl
  case hcell1 => decide
  case hnames1 => decide
  case hfs1 => intro _; with_unfolding_all rfl
  case src1 =>
    k_steps
    refine hold_elim ?_
    rename News _ _ _ _ => N6
    rename Fr _ _ _ _ => F6
    refine' src_list (its := cits) (n := cn) hh F6 N6 hlc (by rw [hcs, sizeLine_eq]; decide) ?Qb
    case Qb =>
      intro I fp wr P St h₈ O hP
      refine ⟨I, fp, wr, _, P, St, h₈, _, _, rfl, rfl, O, SixJ.start, ?_, ?_⟩
      · intro C i' v zs n₁ n₂ h tk m₃ E' hi' hPv hJ hz sub sub2 F N hn hm hC
        have hv := hP _ _ hPv
        rw [← Array.getElem?_toList] at hv
        obtain ⟨c, tc, rfl, hc⟩ := IntsAre.at hci _ _ hv
        have ec : cs.getD i' 0 = c := by simp [List.getD, hc]
        refine Tuple_ ?_
        refine spliced_more ?_
        refine mod_elt (s := s) (by decide) rfl rfl hn hm ?_
        intro t1 k1
        refine spliced_more ?_
        refine divmod_elt (s := s) (by decide) (by decide) (PyProof.noPylong_of_log2 (by decide +kernel)) rfl rfl hn hm ?_
        intro t2 k2
        refine spliced_more ?_
        refine divmod_elt (s := s) (by decide) (by decide) (PyProof.noPylong_of_log2 (by decide +kernel)) rfl rfl hn hm ?_
        intro t3 k3
        refine spliced_more ?_
        refine divmod_elt (s := s) (by decide) (by decide) (PyProof.noPylong_of_log2 (by decide +kernel)) rfl rfl hn hm ?_
        intro t4 k4
        refine spliced_more ?_
        refine divmod_elt (s := s) (by decide) (by decide) (PyProof.noPylong_of_log2 (by decide +kernel)) rfl rfl hn hm ?_
        intro t5 k5
        refine spliced_more ?_
        refine divmod_elt (s := s) (by decide) (by decide) (PyProof.noPylong_of_log2 (by decide +kernel)) rfl rfl hn hm ?_
        intro t6 k6
        with_reducible refine spliced_none ?_
        with_reducible refine kup_newTuple F N ?_ ?sz
        case sz => rw [sizeLine_eq]; exact (by decide : 6 ≤ 16777216)
        intro D h' F' N' lD
        refine ⟨h', k6, [(D, _)], rfl, F', N', fun q hq e he => ?_, hJ.deed ec⟩
        · rw [List.mem_singleton.mp hq]
          exact Nat.ne_of_lt (lD e he)
      · intro D zs k n₁ h' tk F' N' ne sub hJ hz
        rw [hcs] at hJ
        obtain ⟨tz, P10, st, ct⟩ := hJ
        k_steps
        refine hold_elim ?_
        refine @h _ _ _ _ D zs.toArray k _ tz F' N' (fun q hq => .tail _ (sub q hq)) (by walk_at "agree") rfl (.head _) P10 ?_ ?_ (fun p hp => .tail _ (st p hp)) ct
        · rw [List.length_map, List.length_range]
        · intro q hq
          obtain ⟨i, -, rfl⟩ := List.mem_map.mp hq
          exact sixOf_ok _
end
end
theorem offH84 : True := trivial
end
section
theorem kw105 : True := by
  w_top off
  trivial
section
theorem kw104 : True := by
  k_with "agree" => (fail_if_success have := @offH85); first | with_reducible assumption | exact Agree.start | (refine' Agree.set ?_ ?kww231; (case kww231 => decide); walk_at "agree") | (refine' Agree.same ?_ ?kww231; (case kww231 => with_reducible assumption); walk_at "agree")
  k_with "kin" => (fail_if_success have := @offH85); first | with_reducible assumption | exact List.Mem.head _ | (refine List.mem_cons_of_mem _ ?_; walk_at "kin")
  k_with "execs cons" => (fail_if_success have := @offH85); ((with_reducible show wpAny _ _ (execs (Stmt.For _ _ _ _ _ :: _) _) _ _ _); refine hold_intro ?_)
  k_with "pyIter ref" => (fail_if_success have := @offH85); refine hold_intro ?_
  k_with "binaryOp Add ref ref" => (fail_if_success have := @offH85); refine hold_intro ?_
  trivial
section
variable {w : World} {A A₀ : Around} {E : Value → Shared → Prop} {s : Shared} {h₀ : Heap} {L fa : Addr} {cd : Value} {m mg mb : Str → Option Value} {news : List (Addr × Obj)}
   {p : Program} {loose : List Str} {mean : ExcName → Option Value} {Q : Flow → Shared → Prop} {kind place value extra fg : Int} {sg : Str} {tk tt tp tv te tf ts th : Tok} {turn home : Nat}
   {T : Tb} {ps : Nat → List (Str × Value)} {r : Addr} {rk : Nat} {ra : Nat → Addr} {Rs : Nat → List Str} {TT tl dl : Addr} {tls dls : List Value} {fz : List (Addr × Obj)}
theorem law_f (S : Sit w A A₀ h₀ h₀ (envOfC (Str.ofString "law") lawScope L fa cd) [] L m p loose mean mg mb news s.heap 100) (hu : A.units + 70 < cLine)
   {ld : Addr}
   (m1 : m (Str.ofString "deeds") = some (.ref ld))
   (h : ∀ h1 t1 m1 news1 le eits ek tz, Fr h₀ L h1 m1 → News h₀ L h1 news1 → (∀ q ∈ news, q ∈ news1) → Agree [Str.ofString "ends"] m m1 → m1 (Str.ofString "ends") = some (.ref le) → (le, listOf eits ek) ∈ news1 → Paired (SixAt tz) eits.toList endsL → (∀ p ∈ tz, p ∈ news1) → (∀ p ∈ tz, p.2.cls = .type "tuple" ∧ isIter p.2 = false) → wpAny (model pg w) A (execs (lawBody.drop 11) (envOfC (Str.ofString "law") lawScope L fa cd)) Q E {s with heap := h1, toks := t1}) :
   wpAny (model pg w) A (execs (lawBody.drop 10) (envOfC (Str.ofString "law") lawScope L fa cd)) Q E s := by
  revert S
  conv in List.drop 10 lawBody => whnf
  conv in (occs := *) lawScope => all_goals whnf
  try dsimp only
  intro S
  obtain ⟨KX, T', B', F, N, hA, hf, hke, hroom, hh⟩ := S
  rw [← overA_eq (l := [(Str.ofString "deeds", .ref ld)]) (M := m) (by simp only [List.forall_mem_cons]; exact ⟨m1, fun _ h => nomatch h⟩)] at F
  simp only [overA] at F
  k_steps
  refine hold_elim ?_
  rename News _ _ _ _ => N0
  rename Fr _ _ _ _ => F0
  rename_i D0 hD0 g0 l0 hl0 g1
  with_reducible refine' ListComp2_own (k := 4) (P2 := fun j v => j < 4 → ∃ t, v = .int (([1, 2, 4, 5] : List Int).getD j 0) t) (SixJ endQ) ?F1 ?hclos1 ?hcell1 ?a2 ?hnames1 ?a3 ?a4 ?a5 ?src1 ?hfs1 ?hfs2
  case F1 => exact F0
  case a2 => rfl
  case a3 => rfl
  case a4 => rfl
  case a5 => decide
  case hclos1 => with_unfolding_all rfl
  case hcell1 => decide
  case hnames1 => decide
  case hfs1 => intro _; with_unfolding_all rfl
  case hfs2 => intro _ _; with_unfolding_all rfl
  case src1 =>
    k_steps
    refine hold_elim ?_
    rename News _ _ _ _ => N6
    rename Fr _ _ _ _ => F6
    rename_i D1 hD1 g2
    refine src_tuple (nw := []) (n₂ := []) hh F6 N6 (.head _) (by rw [sizeLine_eq]; exact (by decide : 3 ≤ 16777216)) ?_
    intro I P St h8 O hP
    refine ⟨I, _, _, _, P, St, h8, _, _, rfl, rfl, O, (by rw [sizeLine_eq]; exact (by decide : 12 ≤ 16777216)), SixJ.start, places_src hh, ?_, ?_⟩
    · intro C i j u v zs n₁ n₂ h tk m₃ E' hi hj hPu hPv hJ hz sub sub2 F N hn h1 h2 hC
      have hi : i < 3 := hi
      have hu := hP i u hPu
      obtain ⟨tb, rfl⟩ := hPv hj
      obtain ⟨ta, rfl⟩ : ∃ t, u = .int ((1 + i : Nat) : Int) t := by
        rcases (nlt3 (by first | with_reducible assumption | omega) : i = 0 ∨ i = 1 ∨ i = 2) with rfl | rfl | rfl <;> (cases hu; exact ⟨_, rfl⟩)
      refine ends_elt F N rfl rfl rfl hn h1 h2 ?_
      intro D h' k t1 t4 t5 t6 F' N' lD
      refine ⟨h', k, [(D, _)], rfl, F', N', fun q hq e he => ?_, SixJ.ends hj hJ⟩
      rw [List.mem_singleton.mp hq]
      exact Nat.ne_of_lt (lD e he)
    · intro D zs k n₁ h' tk F' N' ne sub hJ hz
      have hJ12 : SixJ endQ 12 zs n₁ := hJ
      have hzl : zs.length = 12 := hz
      obtain ⟨tz, P13, st, ct⟩ := hJ12.fin (sub _ (.tail _ (.tail _ (.head _))))
      k_steps
      refine hold_elim ?_
      rename News _ _ _ _ => N7
      rename Fr _ _ _ _ => F7
      refine' kmk_add_lit F7 N7 ⟨_, (N7 _ (.tail _ (sub _ (.tail _ (.head _))))).1, rfl, 0, rfl⟩ ⟨_, (N7 _ (.head _)).1, rfl, k, rfl⟩ rfl ?_ ?z
      case z => rw [sizeLine_eq]; show 1 + zs.length ≤ _; rw [hzl]; decide
      intro DE h9 F9 N9 lDE
      k_steps
      refine hold_elim ?_
      rename News _ _ _ _ => N8
      rename Fr _ _ _ _ => F8
      exact h _ _ _ _ DE _ _ tz F8 N8 (fun q hq => .tail _ (.tail _ (sub q (.tail _ (.tail _ (.tail _ hq)))))) (by walk_at "agree") rfl (.head _) P13 (fun p hp => .tail _ (.tail _ (st p hp))) ct
end
end
theorem offH85 : True := trivial
end
section

section
theorem kw108 : True := by
  w_top off
  trivial
theorem kw107 : True := by
  k_with "call type:str" => (fail_if_success have := @offgTAIL); ((with_reducible show wpAny _ _ (call (Value.type "str") [Value.ref _]) _ _ _); (first | refine' str_got_one PySem.F.excStr_AssertionError ?Nw237 ?Gw237 ?Uw237 ?_ | refine' str_got_one PySem.F.excStr_ValueError ?Nw237 ?Gw237 ?Uw237 ?_ | refine' str_got_one PySem.F.excStr_TypeError ?Nw237 ?Gw237 ?Uw237 ?_); (case Gw237 => with_reducible assumption); (case Nw237 => with_reducible assumption); (case Uw237 => exact units_deed (by with_reducible assumption)))
  k_with "exec If" => (fail_if_success have := @offgTAIL); refine wpAny_If ?_
  k_with "leaving ref" => (fail_if_success have := @offgTAIL); (k_here; (refine' leave_onS ?k1w239 ?k2w239 ?k3w239 ?k4w239 ?_; (case k3w239 => assumption); (case k2w239 => assumption); (case k1w239 => assumption); (case k4w239 => assumption); k_whole; intro _ S' R' U'; (try dsimp only at S' R' U' ⊢); (revert S' R' U'; intro _ _ _)))
  k_with "subscriptTail Name Name ref int" => (fail_if_success have := @offgTAIL); (refine' text_pick3 ?Nw240 ?hlw240 ?hzw240 ?hsgw240 ?_; (case Nw240 => k_asm); (case hlw240 => with_reducible assumption); (case hzw240 => with_reducible assumption); (case hsgw240 => with_reducible assumption); intro _ _ _ _)
  k_with "binaryOp Add str str" => (fail_if_success have := @offgTAIL); ((with_reducible show wpAny _ _ (binaryOp _ _ (Value.str (errM _) _)) _ _ _); (refine' KXadd.add wordA_len errM_len ?cw241 ?_; (case cw241 => decide)); intro _ _ _)
  trivial
section
variable {w : World} {A A₀ : Around} {E : Value → Shared → Prop} {s : Shared} {h₀ base : Heap} {env : Env} {outer : List Env} {L x l d : Addr} {tl : Tok} {m mg mb : Str → Option Value} {news : List (Addr × Obj)}
   {p : Program} {loose : List Str} {mean : ExcName → Option Value} {Q : Value → Shared → Prop} {nm : Str} {tk : Tok} {its : Array Value} {n : Nat} {ps : List (Str × Value)} {v : Value}
theorem set_gen (S : Sit w A A₀ base h₀ env outer L m p loose mean mg mb news s.heap 25) (B : Box w news x l d tl its n ps) (hn : NS nm) (hv : VOk v) (hs : ps.length < 1000)
   (ok : ∀ h' t' news' its' n' ps', OutSet nm tk v ps ps' (Str.ofString "") → Fr h₀ L h' m → News h₀ L h' news' → Kept l news news' → Box w news' x l d tl its' n' ps' → Q .none {s with heap := h', toks := t'})
   (bv : ∀ e t g h' t' news' tk' its' n' ps', OutSet nm tk v ps ps' (Str.ofString "ValueError " ++ ctlM) → Fr h₀ L g m → RaisedS base g (env :: outer) e (.type "ValueError") t [.str ctlM tk'] news' h' → g.UpToSlots h' → Kept l news news' → Box w news' x l d tl its' n' ps' → E (.ref e) {s with heap := h', toks := t'})
   (ba : ∀ e t g h' t' news' tk' its' n' ps', OutSet nm tk v ps ps' (Str.ofString "AssertionError " ++ errM v) → Fr h₀ L g m → RaisedS base g (env :: outer) e (.type "AssertionError") t [.str (errM v) tk'] news' h' → g.UpToSlots h' → Kept l news news' → Box w news' x l d tl its' n' ps' → E (.ref e) {s with heap := h', toks := t'}) :
   wpAny (model pg w) A (call (.ref 97) [.ref x, .str nm tk, v]) Q E s := by
  cases hc : ctlIn isCtlN nm.cps with
  | true => exact set_nmbad S hn.1 (hn.2.trans hc) B fun e t g h' t' news' tk' F R U sub => bv e t g h' t' news' tk' _ _ ps (.inl ⟨hc, rfl, rfl⟩) F R U (fun q hq _ => sub q hq) (B.mono sub)
  | false =>
    exact set_any S B hn.1 (hn.2.trans hc) hc hv hs (fun hg h' t' news' its' n' F N K B => ok _ _ _ _ _ _ (.inr ⟨hc, .inl ⟨hg, rfl, rfl⟩⟩) F N K B) (fun hg e t g h' t' news' tk' its' n' F R U K B => bv _ _ _ _ _ _ _ _ _ _ (.inr ⟨hc, .inr (.inl ⟨hg, rfl, rfl⟩)⟩) F R U K B)
      (fun hg e t g h' t' news' tk' its' n' F R U K B => ba _ _ _ _ _ _ _ _ _ _ (.inr ⟨hc, .inr (.inr ⟨hg, rfl, rfl⟩)⟩) F R U K B)
end
theorem kw106 : True := by
  k_with "call ref" => (fail_if_success have := @offH25); ((with_reducible show wpAny _ _ (call (Value.ref 97) [_, Value.str _ _, _] _) _ _ _); k_dflt (refine' set_gen ?Sw236 ?Bw236 ?kaw236 ?hvw236 ?hsw236 ?_ ?_ ?_; (case Sw236 => walk_at "mk_sit"); (case Bw236 => walk_at "box"); (case kaw236 => with_reducible assumption); (case hvw236 => with_reducible assumption); (case hsw236 => with_reducible assumption)); intro _ _ _ _ _ _ _ _ _ _ _; rotate_left; intro _ _ _ _ _ _ _ _ _ _ _ _ _ _ _ _; rotate_left; intro _ _ _ _ _ _ _ _ _ _ _ _ _ _ _ _; rotate_left)
  trivial
section
variable {w : World} {A A₀ : Around} {E : Value → Shared → Prop} {s : Shared} {h₀ g : Heap} {env : Env} {L L1 x l d gl D : Addr} {tl : Tok} {m mg mb : Str → Option Value} {news : List (Addr × Obj)}
   {p : Program} {loose : List Str} {mean : ExcName → Option Value} {Q : Flow → Shared → Prop} {its : Array Value} {n : Nat} {ps : List (Str × Value)} {place value extra : Int} {sg nm : Str} {tk tp tv te ts tn : Tok}
theorem tail0 (KX0 : (hd.heap_39 w.params).In h₀) (TX0 : Top p loose mean mg mb h₀) (KX : (hd.heap_39 w.params).In g) (T : Top p loose mean mg mb g) (B1 : Below A h₀ [env] g) (F : Fr g L1 s.heap m) (N : News g L1 s.heap news) (KD : KtsDicts ([env].filterMap (·.frame)) g) (T0 : KtsTurn ([env].filterMap (·.frame)) g g)
   (hf : env.frame = some L) (hke : env.scope.kind = .function) (hroom : A.depth + 60 < recursionLimit) (hh : A.handled = none) (hu : A.units + 64 < cLine) (B : Box w news x l d tl its n ps) (hs : ps.length < 1000) (hsg : SignOk sg) (hv : 0 ≤ value ∧ value < 8) (hD : TextsAt news sg D) (hn : NS nm)
   (m1 : m (Str.ofString "table") = some (.ref x)) (m2 : m (Str.ofString "kind") = some (.int 0 tk)) (m3 : m (Str.ofString "value") = some (.int value tv)) (m4 : m (Str.ofString "texts") = some (.ref D)) (m5 : m (Str.ofString "name") = some (.str nm tn))
   (h : ∀ g' L' m' h' t' news' its' n' ps' v ans tw, TextAt sg value v → OutSet nm tn v ps ps' ans → KtsTurn ([env].filterMap (·.frame)) g g' → Fr g' L' h' m' → News g' L' h' news' → Kept l news news' → Box w news' x l d tl its' n' ps' → Q (.ret (.str ans tw)) {s with heap := h', toks := t'}) :
   wpAny (model pg w) (A.deeper (deedEnv L1)) (execs (deedBody.drop 2) (deedEnv L1)) Q E s := by
  dsimp only [deedEnv]
  conv in List.drop 2 deedBody => whnf
  conv in (occs := *) deedScope => all_goals whnf
  try dsimp only
  rw [← overA_eq (l := [(Str.ofString "table", .ref x), (Str.ofString "kind", .int 0 tk), (Str.ofString "value", .int value tv), (Str.ofString "texts", .ref D), (Str.ofString "name", .str nm tn)]) (M := m) (by simp only [List.forall_mem_cons]; exact ⟨m1, m2, m3, m4, m5, fun _ h => nomatch h⟩)] at F
  simp only [overA] at F
  k_steps
  all_goals (try dsimp only)
  all_goals exact h _ _ _ _ _ _ _ _ _ _ _ _ (by assumption) (by assumption) (by assumption) (by assumption) (by assumption) (by assumption) (by assumption)
end
theorem offH25 : True := trivial
end
section
theorem kw113 : True := by
  w_top off
  trivial
section
variable {w : World} {A A₀ : Around} {E : Value → Shared → Prop} {s : Shared} {h₀ g : Heap} {env : Env} {L L1 x l d gl D : Addr} {tl : Tok} {m mg mb : Str → Option Value} {news : List (Addr × Obj)}
   {p : Program} {loose : List Str} {mean : ExcName → Option Value} {Q : Flow → Shared → Prop} {its : Array Value} {n : Nat} {ps : List (Str × Value)} {place value extra : Int} {sg nm : Str} {tk tp tv te ts tn : Tok} {nv : Value}
section
theorem kw109 : True := by
  k_with "call ref" => (fail_if_success have := @offH27); ((with_reducible show wpAny _ _ (call (Value.ref 102) [_, Value.str _ _] _) _ _ _); k_dflt (refine' del_gen ?Sw242 ?Bw242 ?hnw242 ?_ ?_ ?_; (case Sw242 => walk_at "mk_sit"); (case Bw242 => walk_at "box"); (case hnw242 => with_reducible assumption)); intro _ _ _ _ _ _ _ _ _ _ _; rotate_left; intro _ _ _ _ _ _ _ _ _ _ _ _ _ _ _ _; rotate_left; intro _ _ _ _ _ _ _ _ _ _ _ _ _ _ _ _ _; rotate_left)
  trivial
theorem tail1 (KX0 : (hd.heap_39 w.params).In h₀) (TX0 : Top p loose mean mg mb h₀) (KX : (hd.heap_39 w.params).In g) (T : Top p loose mean mg mb g) (B1 : Below A h₀ [env] g) (F : Fr g L1 s.heap m) (N : News g L1 s.heap news) (KD : KtsDicts ([env].filterMap (·.frame)) g) (T0 : KtsTurn ([env].filterMap (·.frame)) g g)
   (hf : env.frame = some L) (hke : env.scope.kind = .function) (hroom : A.depth + 60 < recursionLimit) (hh : A.handled = none) (hu : A.units + 64 < cLine) (B : Box w news x l d tl its n ps) (hs : ps.length < 1000) (hn : NS nm)
   (m1 : m (Str.ofString "table") = some (.ref x)) (m2 : m (Str.ofString "kind") = some (.int 1 tk)) (m3 : m (Str.ofString "name") = some (.str nm tn))
   (h : ∀ g' L' m' h' t' news' its' n' ps' ans tw, OutDel nm ps ps' ans → KtsTurn ([env].filterMap (·.frame)) g g' → Fr g' L' h' m' → News g' L' h' news' → Kept l news news' → Box w news' x l d tl its' n' ps' → Q (.ret (.str ans tw)) {s with heap := h', toks := t'}) :
   wpAny (model pg w) (A.deeper (deedEnv L1)) (execs (deedBody.drop 2) (deedEnv L1)) Q E s := by
  dsimp only [deedEnv]
  conv in List.drop 2 deedBody => whnf
  conv in (occs := *) deedScope => all_goals whnf
  try dsimp only
  rw [← overA_eq (l := [(Str.ofString "table", .ref x), (Str.ofString "kind", .int 1 tk), (Str.ofString "name", .str nm tn)]) (M := m) (by simp only [List.forall_mem_cons]; exact ⟨m1, m2, m3, fun _ h => nomatch h⟩)] at F
  simp only [overA] at F
  k_steps
  all_goals (try dsimp only)
  all_goals exact h _ _ _ _ _ _ _ _ _ _ _ (by assumption) (by assumption) (by assumption) (by assumption) (by assumption) (by assumption)
end
section
theorem kw110 : True := by
  k_with "call ref" => (fail_if_success have := @offH27); ((with_reducible show wpAny _ _ (call (Value.ref 174) [_, Value.str _ _, _] _) _ _ _); k_dflt (refine' def_gen ?Sw243 ?Bw243 ?hnw243 ?hvw243 ?hsw243 ?hbw243 ?_ ?_ ?_; (case Sw243 => walk_at "mk_sit"); (case Bw243 => walk_at "box"); (case hnw243 => with_reducible assumption); (case hvw243 => with_reducible assumption); (case hsw243 => with_reducible assumption); (case hbw243 => with_reducible assumption)); intro _ _ _ _ _ _ _ _ _ _ _ _; rotate_left; intro _ _ _ _ _ _ _ _ _ _ _ _ _ _ _ _; rotate_left; intro _ _ _ _ _ _ _ _ _ _ _ _ _ _ _ _ _; rotate_left)
  trivial
theorem tail2 (KX0 : (hd.heap_39 w.params).In h₀) (TX0 : Top p loose mean mg mb h₀) (KX : (hd.heap_39 w.params).In g) (T : Top p loose mean mg mb g) (B1 : Below A h₀ [env] g) (F : Fr g L1 s.heap m) (N : News g L1 s.heap news) (KD : KtsDicts ([env].filterMap (·.frame)) g) (T0 : KtsTurn ([env].filterMap (·.frame)) g g)
   (hf : env.frame = some L) (hke : env.scope.kind = .function) (hroom : A.depth + 60 < recursionLimit) (hh : A.handled = none) (hu : A.units + 64 < cLine) (B : Box w news x l d tl its n ps) (hs : ps.length < 1000) (hn : NS nm) (hb : ∀ q ∈ ps, VBig q.2) (hsg : SignOk sg) (hD : TextsAt news sg D) (hv : 0 ≤ value ∧ value < 8)
   (m1 : m (Str.ofString "table") = some (.ref x)) (m2 : m (Str.ofString "kind") = some (.int 2 tk)) (m3 : m (Str.ofString "value") = some (.int value tv)) (m4 : m (Str.ofString "texts") = some (.ref D)) (m5 : m (Str.ofString "name") = some (.str nm tn))
   (h : ∀ g' L' m' h' t' news' its' n' ps' v ans tw, TextAt sg value v → OutDef nm v ps ps' ans → KtsTurn ([env].filterMap (·.frame)) g g' → Fr g' L' h' m' → News g' L' h' news' → Kept l news news' → Box w news' x l d tl its' n' ps' → Q (.ret (.str ans tw)) {s with heap := h', toks := t'}) :
   wpAny (model pg w) (A.deeper (deedEnv L1)) (execs (deedBody.drop 2) (deedEnv L1)) Q E s := by
  dsimp only [deedEnv]
  conv in List.drop 2 deedBody => whnf
  conv in (occs := *) deedScope => all_goals whnf
  try dsimp only
  rw [← overA_eq (l := [(Str.ofString "table", .ref x), (Str.ofString "kind", .int 2 tk), (Str.ofString "value", .int value tv), (Str.ofString "texts", .ref D), (Str.ofString "name", .str nm tn)]) (M := m) (by simp only [List.forall_mem_cons]; exact ⟨m1, m2, m3, m4, m5, fun _ h => nomatch h⟩)] at F
  simp only [overA] at F
  k_steps
  all_goals (try dsimp only)
  all_goals exact h _ _ _ _ _ _ _ _ _ _ _ _ (by assumption) (by assumption) (by assumption) (by assumption) (by assumption) (by assumption) (by assumption)
end
section
theorem kw111 : True := by
  k_with "call ref" => (fail_if_success have := @offH27); ((with_reducible show wpAny _ _ (call (Value.ref 181) [_, _, _]) _ _ _); k_dflt (refine' add_gen3 ?Sw244 ?Bw244 ?hvw244 ?hnw244 ?hsw244 ?_ ?_ ?_; (case Sw244 => walk_at "mk_sit"); (case Bw244 => walk_at "box"); (case hvw244 => with_reducible assumption); (case hnw244 => with_reducible assumption); (case hsw244 => with_reducible assumption)); intro _ _ _ _ _ _ _ _ _ _ _; rotate_left; intro _ _ _ _ _ _ _ _ _ _ _ _ _ _ _ _; rotate_left; intro _ _ _ _ _ _ _ _ _ _ _ _ _ _ _ _ _; rotate_left)
  trivial
theorem tail3 (KX0 : (hd.heap_39 w.params).In h₀) (TX0 : Top p loose mean mg mb h₀) (KX : (hd.heap_39 w.params).In g) (T : Top p loose mean mg mb g) (B1 : Below A h₀ [env] g) (F : Fr g L1 s.heap m) (N : News g L1 s.heap news) (KD : KtsDicts ([env].filterMap (·.frame)) g) (T0 : KtsTurn ([env].filterMap (·.frame)) g g)
   (hf : env.frame = some L) (hke : env.scope.kind = .function) (hroom : A.depth + 60 < recursionLimit) (hh : A.handled = none) (hu : A.units + 64 < cLine) (B : Box w news x l d tl its n ps) (hs : ps.length < 1000) (hn : VOk nv) (hsg : SignOk sg) (hD : TextsAt news sg D) (hv : 0 ≤ value ∧ value < 8)
   (m1 : m (Str.ofString "table") = some (.ref x)) (m2 : m (Str.ofString "kind") = some (.int 3 tk)) (m3 : m (Str.ofString "value") = some (.int value tv)) (m4 : m (Str.ofString "texts") = some (.ref D)) (m5 : m (Str.ofString "name") = some (nv))
   (h : ∀ g' L' m' h' t' news' its' n' ps' v ans tw, TextAt sg value v → OutAdd v .none nv ps ps' ans → KtsTurn ([env].filterMap (·.frame)) g g' → Fr g' L' h' m' → News g' L' h' news' → Kept l news news' → Box w news' x l d tl its' n' ps' → Q (.ret (.str ans tw)) {s with heap := h', toks := t'}) :
   wpAny (model pg w) (A.deeper (deedEnv L1)) (execs (deedBody.drop 2) (deedEnv L1)) Q E s := by
  dsimp only [deedEnv]
  conv in List.drop 2 deedBody => whnf
  conv in (occs := *) deedScope => all_goals whnf
  try dsimp only
  rw [← overA_eq (l := [(Str.ofString "table", .ref x), (Str.ofString "kind", .int 3 tk), (Str.ofString "value", .int value tv), (Str.ofString "texts", .ref D), (Str.ofString "name", nv)]) (M := m) (by simp only [List.forall_mem_cons]; exact ⟨m1, m2, m3, m4, m5, fun _ h => nomatch h⟩)] at F
  simp only [overA] at F
  k_steps
  all_goals (try dsimp only)
  all_goals exact h _ _ _ _ _ _ _ _ _ _ _ _ (by assumption) (by assumption) (by assumption) (by assumption) (by assumption) (by assumption) (by assumption)
end
section
theorem kw112 : True := by
  k_with "call ref" => (fail_if_success have := @offH27); ((with_reducible show wpAny _ _ (call (Value.ref 181) [_, _, _] (List.zip _ [_])) _ _ _); k_dflt (refine' add_gen4 ?Sw245 ?Bw245 ?hvw245 ?hpvw245 ?hnw245 ?hsw245 ?_ ?_ ?_; (case Sw245 => walk_at "mk_sit"); (case Bw245 => walk_at "box"); (case hvw245 => with_reducible assumption); (case hpvw245 => with_reducible assumption); (case hnw245 => with_reducible assumption); (case hsw245 => with_reducible assumption)); intro _ _ _ _ _ _ _ _ _ _ _; rotate_left; intro _ _ _ _ _ _ _ _ _ _ _ _ _ _ _ _; rotate_left; intro _ _ _ _ _ _ _ _ _ _ _ _ _ _ _ _ _; rotate_left)
  trivial
theorem tail4 (KX0 : (hd.heap_39 w.params).In h₀) (TX0 : Top p loose mean mg mb h₀) (KX : (hd.heap_39 w.params).In g) (T : Top p loose mean mg mb g) (B1 : Below A h₀ [env] g) (F : Fr g L1 s.heap m) (N : News g L1 s.heap news) (KD : KtsDicts ([env].filterMap (·.frame)) g) (T0 : KtsTurn ([env].filterMap (·.frame)) g g)
   (hf : env.frame = some L) (hke : env.scope.kind = .function) (hroom : A.depth + 60 < recursionLimit) (hh : A.handled = none) (hu : A.units + 64 < cLine) (B : Box w news x l d tl its n ps) (hs : ps.length < 1000) (hn : VOk nv) (hsg : SignOk sg) (hD : TextsAt news sg D) (hv : 0 ≤ value ∧ value < 8) (he : 0 ≤ extra ∧ extra < 8)
   (m1 : m (Str.ofString "table") = some (.ref x)) (m2 : m (Str.ofString "kind") = some (.int 4 tk)) (m3 : m (Str.ofString "value") = some (.int value tv)) (m4 : m (Str.ofString "extra") = some (.int extra te)) (m5 : m (Str.ofString "texts") = some (.ref D)) (m6 : m (Str.ofString "name") = some (nv))
   (h : ∀ g' L' m' h' t' news' its' n' ps' v pv ans tw, TextAt sg value v → TextAt sg extra pv → OutAdd v pv nv ps ps' ans → KtsTurn ([env].filterMap (·.frame)) g g' → Fr g' L' h' m' → News g' L' h' news' → Kept l news news' → Box w news' x l d tl its' n' ps' → Q (.ret (.str ans tw)) {s with heap := h', toks := t'}) :
   wpAny (model pg w) (A.deeper (deedEnv L1)) (execs (deedBody.drop 2) (deedEnv L1)) Q E s := by
  dsimp only [deedEnv]
  conv in List.drop 2 deedBody => whnf
  conv in (occs := *) deedScope => all_goals whnf
  try dsimp only
  rw [← overA_eq (l := [(Str.ofString "table", .ref x), (Str.ofString "kind", .int 4 tk), (Str.ofString "value", .int value tv), (Str.ofString "extra", .int extra te), (Str.ofString "texts", .ref D), (Str.ofString "name", nv)]) (M := m) (by simp only [List.forall_mem_cons]; exact ⟨m1, m2, m3, m4, m5, m6, fun _ h => nomatch h⟩)] at F
  simp only [overA] at F
  k_steps
  all_goals (try dsimp only)
  all_goals exact h _ _ _ _ _ _ _ _ _ _ _ _ _ (by assumption) (by assumption) (by assumption) (by assumption) (by assumption) (by assumption) (by assumption) (by assumption)
end
end
theorem offH27 : True := trivial
end
section
theorem kw116 : True := by
  w_top off
  trivial
theorem paired_turn {α β : Type} {F : α → β → Prop} : ∀ {a : List α} {b : List β}, Paired F a b → Paired F a.reverse b.reverse
  | _, _, .nil => .nil
  | _, _, .cons h t => by
    rw [List.reverse_cons, List.reverse_cons]
    exact PySem.Paired.snoc (paired_turn t) h
section
variable {prog : Program} {w : World} {A : Around} {E : Value → Shared → Prop} {s : Shared} {h₀ : Heap} {L l : Addr} {m : Str → Option Value} {news : List (Addr × Obj)}
theorem rev_L {value slice : Expr} {its : Array Value} {n : Nat} {vk : Value} {ops : List Value} {Q : Value → Shared → Prop} (F : Fr h₀ L s.heap m) (N : News h₀ L s.heap news) (hl : (l, listOf its n) ∈ news) (pk : IsPart vk (some (-1)))
    (h : ∀ D h', Fr h₀ L h' m → News h₀ L h' ((D, listOf its.toList.reverse.toArray 0) :: news) → (∀ p ∈ news, p.1 < D) → Q (.ref D) { s with heap := h' })
    (hs : subscripted slice false (.ref l) (.ref s.heap.objs.size) = operate ops (getItem (.ref l) (.ref s.heap.objs.size))) (ht : ∀ r, letTemporaryGo value (.ref l) r = pure ()) (hz : its.size ≤ sizeLine) :
    wpAny (model prog w) A (subscriptTail value slice (.ref l) (.ref s.heap.objs.size)) Q E { s with heap := s.heap.push { cls := .type "slice", data := .fields #[.none, .none, vk] } } :=
  krv_lit F N ⟨_, (N _ hl).1, rfl, n, rfl⟩ pk rfl h hs ht hz
theorem box_turn {x d : Addr} {tl : Tok} {its : Array Value} {n n' : Nat} {ps : List (Str × Value)} {h : Heap} (B : Box w news x l d tl its n ps) (N : News h₀ L h news) : Kept l news (upd l (listOf its.toList.reverse.toArray n') news) ∧ Box w (upd l (listOf its.toList.reverse.toArray n') news) x l d tl its.toList.reverse.toArray n' ps.reverse := by
  refine ⟨Kept.upd, B.upd_self N ?_ (by rw [List.length_reverse]; exact B.small)⟩
  have P := B.P.upd (o' := listOf its.toList.reverse.toArray n') N B.hl (by show Value.type "list" ≠ Value.type "tuple"; decide)
  rw [List.toList_toArray]
  exact paired_turn P
theorem box_void {x d : Addr} {tl : Tok} {its : Array Value} {n n' : Nat} {ps : List (Str × Value)} {h : Heap} (B : Box w news x l d tl its n ps) (N : News h₀ L h news) : Kept l news (upd l (listOf #[] n') news) ∧ Box w (upd l (listOf #[] n') news) x l d tl #[] n' [] :=
  ⟨Kept.upd, B.upd_self N .nil (Nat.zero_le _)⟩
end
section
variable {w : World} {A A₀ : Around} {E : Value → Shared → Prop} {s : Shared} {h₀ g : Heap} {env : Env} {L L1 x l d gl D : Addr} {tl : Tok} {m mg mb : Str → Option Value} {news : List (Addr × Obj)}
   {p : Program} {loose : List Str} {mean : ExcName → Option Value} {Q : Flow → Shared → Prop} {its : Array Value} {n : Nat} {ps : List (Str × Value)} {place value extra : Int} {sg nm : Str} {tk tp tv te ts tn : Tok} {nv : Value}
section
theorem tail5 (KX0 : (hd.heap_39 w.params).In h₀) (TX0 : Top p loose mean mg mb h₀) (KX : (hd.heap_39 w.params).In g) (T : Top p loose mean mg mb g) (B1 : Below A h₀ [env] g) (F : Fr g L1 s.heap m) (N : News g L1 s.heap news) (KD : KtsDicts ([env].filterMap (·.frame)) g) (T0 : KtsTurn ([env].filterMap (·.frame)) g g)
   (hf : env.frame = some L) (hke : env.scope.kind = .function) (hroom : A.depth + 60 < recursionLimit) (hh : A.handled = none) (hu : A.units + 64 < cLine) (B : Box w news x l d tl its n ps) (hs : ps.length < 1000) (hn : NS nm) (hv : 0 ≤ value ∧ value < 8) (hsg : SignOk sg) (hD : TextsAt news sg D) 
   (m1 : m (Str.ofString "given") = some (.ref l)) (m2 : m (Str.ofString "kind") = some (.int 5 tk)) (m3 : m (Str.ofString "value") = some (.int value tv)) (m4 : m (Str.ofString "texts") = some (.ref D)) (m5 : m (Str.ofString "name") = some (.str nm tn))
   (h : ∀ g' L' m' h' t' news' its' n' v tw, TextAt sg value v → KtsTurn ([env].filterMap (·.frame)) g g' → Fr g' L' h' m' → News g' L' h' news' → Kept l news news' → Box w news' x l d tl its' n' (ps ++ [(nm, v)]) → Q (.ret (.str (Str.ofString "") tw)) {s with heap := h', toks := t'}) :
   wpAny (model pg w) (A.deeper (deedEnv L1)) (execs (deedBody.drop 2) (deedEnv L1)) Q E s := by
  dsimp only [deedEnv]
  conv in List.drop 2 deedBody => whnf
  conv in (occs := *) deedScope => all_goals whnf
  try dsimp only
  rw [← overA_eq (l := [(Str.ofString "given", .ref l), (Str.ofString "kind", .int 5 tk), (Str.ofString "value", .int value tv), (Str.ofString "texts", .ref D), (Str.ofString "name", .str nm tn)]) (M := m) (by simp only [List.forall_mem_cons]; exact ⟨m1, m2, m3, m4, m5, fun _ h => nomatch h⟩)] at F
  simp only [overA] at F
  have hnl := hn.1
  k_steps
  dsimp only
  rename Kept l _ _ => K
  exact h _ _ _ _ _ _ _ _ _ _ (by assumption) (by assumption) (by assumption) (by assumption) (fun q hq hne => K q (.tail _ hq) hne) (by assumption)
end
section
theorem kw114 : True := by
  k_with "subscriptTail Name Slice ref ref" => (fail_if_success have := @offH28); ((with_reducible show wpAny _ _ (subscriptTail _ (PySem.Expr.Slice none none (some _) _) (Value.ref _) (Value.ref _)) _ _ _); k_dflt (refine' rev_L ?Fw246 ?Nw246 ?lw246 ?kw246 ?_ ?sw246 ?tw246 ?zw246; (case Fw246 => k_asm); (case Nw246 => k_asm); (case lw246 => k_mem); (case kw246 => exact IsPart.int _ _); (case sw246 => with_unfolding_all rfl); (case tw246 => kmk_pure); (case zw246 => rw [sizeLine_eq]; omega)); intro _ _ _ _ _; (try k_sweep))
  trivial
theorem tail6 (KX0 : (hd.heap_39 w.params).In h₀) (TX0 : Top p loose mean mg mb h₀) (KX : (hd.heap_39 w.params).In g) (T : Top p loose mean mg mb g) (B1 : Below A h₀ [env] g) (F : Fr g L1 s.heap m) (N : News g L1 s.heap news) (KD : KtsDicts ([env].filterMap (·.frame)) g) (T0 : KtsTurn ([env].filterMap (·.frame)) g g)
   (hf : env.frame = some L) (hke : env.scope.kind = .function) (hroom : A.depth + 60 < recursionLimit) (hh : A.handled = none) (hu : A.units + 64 < cLine) (B : Box w news x l d tl its n ps) (hs : ps.length < 1000) (hp : place < 4)
   (m1 : m (Str.ofString "given") = some (.ref l)) (m2 : m (Str.ofString "kind") = some (.int 6 tk)) (m3 : m (Str.ofString "place") = some (.int place tp))
   (h : ∀ g' L' m' h' t' news' its' n' tw, KtsTurn ([env].filterMap (·.frame)) g g' → Fr g' L' h' m' → News g' L' h' news' → Kept l news news' → Box w news' x l d tl its' n' (ps.reverse) → Q (.ret (.str (Str.ofString "") tw)) {s with heap := h', toks := t'}) :
   wpAny (model pg w) (A.deeper (deedEnv L1)) (execs (deedBody.drop 2) (deedEnv L1)) Q E s := by
  dsimp only [deedEnv]
  conv in List.drop 2 deedBody => whnf
  conv in (occs := *) deedScope => all_goals whnf
  try dsimp only
  rw [← overA_eq (l := [(Str.ofString "given", .ref l), (Str.ofString "kind", .int 6 tk), (Str.ofString "place", .int place tp)]) (M := m) (by simp only [List.forall_mem_cons]; exact ⟨m1, m2, m3, fun _ h => nomatch h⟩)] at F
  simp only [overA] at F
  have hsz := B.small'
  k_steps
  refine hold_elim ?_
  rename News _ _ _ _ => N9
  rename Fr _ _ _ _ => F9
  rename (∀ p ∈ news, _) => lt9
  have hz9 : its.size + its.toList.reverse.toArray.size ≤ sizeLine := by simp only [sizeLine_eq, List.size_toArray, List.length_reverse, Array.length_toList]; omega
  with_reducible refine setAll_L F9 N9 (List.mem_cons_of_mem _ (List.mem_cons_of_mem _ B.hl)) (List.mem_cons_of_mem _ (List.mem_cons_self ..)) ?hs9 (Nat.ne_of_lt (lt9 _ B.hl)) hz9 ?_
  case hs9 => exact ⟨_, (N9 _ (.head _)).1, rfl, rfl⟩
  intro h' n' F' N'
  have KB := box_turn (n' := n') B.tail.tail N9
  have K := KB.1
  have B9 := KB.2
  clear KB
  k_steps
  dsimp only
  exact h _ _ _ _ _ _ _ _ _ (by assumption) (by assumption) (by assumption) (fun q hq hne => K q (.tail _ (.tail _ hq)) hne) B9
end
section
theorem kw115 : True := by
  k_with "call builtin:list.clear" => (fail_if_success have := @offH28); (refine' clear_L ?Fw247 ?Nw247 ?hlw247 ?hzw247 ?_; (case Fw247 => k_asm); (case Nw247 => k_asm); (case hlw247 => k_mem); (case hzw247 => rw [sizeLine_eq]; omega); intro _ _ _ _)
  trivial
theorem tail6c (KX0 : (hd.heap_39 w.params).In h₀) (TX0 : Top p loose mean mg mb h₀) (KX : (hd.heap_39 w.params).In g) (T : Top p loose mean mg mb g) (B1 : Below A h₀ [env] g) (F : Fr g L1 s.heap m) (N : News g L1 s.heap news) (KD : KtsDicts ([env].filterMap (·.frame)) g) (T0 : KtsTurn ([env].filterMap (·.frame)) g g)
   (hf : env.frame = some L) (hke : env.scope.kind = .function) (hroom : A.depth + 60 < recursionLimit) (hh : A.handled = none) (hu : A.units + 64 < cLine) (B : Box w news x l d tl its n ps) (hs : ps.length < 1000) (hp : 4 ≤ place)
   (m1 : m (Str.ofString "given") = some (.ref l)) (m2 : m (Str.ofString "kind") = some (.int 6 tk)) (m3 : m (Str.ofString "place") = some (.int place tp))
   (h : ∀ g' L' m' h' t' news' its' n' tw, KtsTurn ([env].filterMap (·.frame)) g g' → Fr g' L' h' m' → News g' L' h' news' → Kept l news news' → Box w news' x l d tl its' n' ([]) → Q (.ret (.str (Str.ofString "") tw)) {s with heap := h', toks := t'}) :
   wpAny (model pg w) (A.deeper (deedEnv L1)) (execs (deedBody.drop 2) (deedEnv L1)) Q E s := by
  dsimp only [deedEnv]
  conv in List.drop 2 deedBody => whnf
  conv in (occs := *) deedScope => all_goals whnf
  try dsimp only
  rw [← overA_eq (l := [(Str.ofString "given", .ref l), (Str.ofString "kind", .int 6 tk), (Str.ofString "place", .int place tp)]) (M := m) (by simp only [List.forall_mem_cons]; exact ⟨m1, m2, m3, fun _ h => nomatch h⟩)] at F
  simp only [overA] at F
  have hsz := B.small'
  have KB := fun n' => box_void (n' := n') B N
  k_steps
  dsimp only
  rename News _ _ _ _ => N9
  exact h _ _ _ _ _ _ _ _ _ (by assumption) (by assumption) N9 (KB _).1 (KB _).2
end
end
theorem offH28 : True := trivial
end
section
theorem kw118 : True := by
  w_top off
  trivial
theorem cutN_len {nm : Str} {ps : List (Str × Value)} : (cutN nm ps).length ≤ ps.length := List.length_filter_le _ _
section
variable {w : World} {A A₀ : Around} {E : Value → Shared → Prop} {s : Shared} {h₀ base : Heap} {env : Env} {outer : List Env} {L x l d : Addr} {tl : Tok} {m mg mb : Str → Option Value} {news : List (Addr × Obj)}
   {p : Program} {loose : List Str} {mean : ExcName → Option Value} {Q : Value → Shared → Prop} {tk ty : Tok} {its : Array Value} {n : Nat} {ps : List (Str × Value)}
/-- add_header('B', 'x') -/
theorem add_Bx (S : Sit w A A₀ base h₀ env outer L m p loose mean mg mb news s.heap 20) (B : Box w news x l d tl its n ps) (hs : ps.length < 1000)
   (ok : ∀ h' t' news' its' n' ps', ps'.length = ps.length + 1 → Fr h₀ L h' m → News h₀ L h' news' → Kept l news news' → Box w news' x l d tl its' n' ps' → Q .none {s with heap := h', toks := t'}) :
   wpAny (model pg w) A (call (.ref 181) [.ref x, .str (Str.ofString "B") tk, .str (Str.ofString "x") ty]) Q E s := by
  have hx : VOk (.str (Str.ofString "x") ty) := .inl ⟨_, _, rfl, by decide +kernel⟩
  have no : ¬ badA (.str (Str.ofString "x") ty) := fun b => by rcases b with ⟨t, e⟩ | e <;> cases e
  refine add_any0 S B hx (.inl ⟨_, _, rfl, by decide +kernel⟩) hs (fun _ nm tn e1 e2 h' t' news' its' n' u tu F N K B _ => ok _ _ _ _ _ _ (by rw [List.length_append]; rfl) F N K B) (fun b => ?_) (fun b => absurd b no) (fun _ b => ?_) (fun _ b => ?_)
  · obtain ⟨s, t, e, h⟩ := b
    cases e
    exact absurd h (by decide +kernel)
  · obtain ⟨s, t, e, h⟩ := b
    cases e
    exact absurd h (by decide +kernel)
  · rcases b with ⟨t, e⟩ | e <;> cases e
end
theorem kw117 : True := by
  k_with "call ref" => (fail_if_success have := @offH29); ((with_reducible show wpAny _ _ (call (Value.ref 184) [Value.ref _] _) _ _ _); refine hold_intro ?_)
  k_with "call ref" => (fail_if_success have := @offH29); ((with_reducible show wpAny _ _ (call (Value.ref 102) [_, Value.str _ _] _) _ _ _); k_dflt (refine' box_del ?Sw249 ?Bw249 ?kaw249 ?kbw249 ?_; (case Sw249 => walk_at "mk_sit"); (case Bw249 => walk_at "box"); (case kaw249 => with_reducible assumption); (case kbw249 => with_reducible assumption); k_whole); intro _ _ _ _ _ _ _ _ _)
  k_with "call ref" => (fail_if_success have := @offH29); ((with_reducible show wpAny _ _ (call (Value.ref 181) [_, Value.str _ _, Value.str _ _]) _ _ _); k_dflt (refine' add_Bx ?Sw250 ?Bw250 ?hsw250 ?_; (case Sw250 => walk_at "mk_sit"); (case Bw250 => walk_at "box"); (case hsw250 => with_reducible assumption); k_whole); intro _ _ _ _ _ _ _ _ _ _ _)
  trivial
section
variable {w : World} {A A₀ : Around} {E : Value → Shared → Prop} {s : Shared} {h₀ g : Heap} {env : Env} {L L1 x l d gl D : Addr} {tl : Tok} {m mg mb : Str → Option Value} {news : List (Addr × Obj)}
   {p : Program} {loose : List Str} {mean : ExcName → Option Value} {Q : Flow → Shared → Prop} {its : Array Value} {n : Nat} {ps : List (Str × Value)} {place value extra : Int} {sg nm : Str} {tk tp tv te ts tn : Tok} {nv : Value}
theorem tail7 (KX0 : (hd.heap_39 w.params).In h₀) (TX0 : Top p loose mean mg mb h₀) (KX : (hd.heap_39 w.params).In g) (T : Top p loose mean mg mb g) (B1 : Below A h₀ [env] g) (F : Fr g L1 s.heap m) (N : News g L1 s.heap news) (KD : KtsDicts ([env].filterMap (·.frame)) g) (T0 : KtsTurn ([env].filterMap (·.frame)) g g)
   (hf : env.frame = some L) (hke : env.scope.kind = .function) (hroom : A.depth + 60 < recursionLimit) (hh : A.handled = none) (hu : A.units + 64 < cLine) (B : Box w news x l d tl its n ps) (hs : ps.length < 1000) (hb : ∀ q ∈ ps, VBig q.2)
   (m1 : m (Str.ofString "table") = some (.ref x)) (m2 : m (Str.ofString "kind") = some (.int 7 tk))
   (ok : ∀ g' L' m' h' t' news' R k t1 t2, (∀ q ∈ ps, goodPr q) → (R, listOf #[.int (ps.length : Int) t1, .int (((cutN (Str.ofString "A") ps).length + 1 : Nat) : Int) t2] k) ∈ news' → (∀ q ∈ news, q.1 ≠ R) → KtsTurn ([env].filterMap (·.frame)) g g' → Fr g' L' h' m' → News g' L' h' news' → (∀ q ∈ news, q ∈ news') → Q (.ret (.ref R)) {s with heap := h', toks := t'})
   (no : ∀ g' L' m' h' t' news' tw, (¬ ∀ q ∈ ps, goodPr q) → KtsTurn ([env].filterMap (·.frame)) g g' → Fr g' L' h' m' → News g' L' h' news' → (∀ q ∈ news, q ∈ news') → Q (.ret (.str (Str.ofString "refused") tw)) {s with heap := h', toks := t'}) :
   wpAny (model pg w) (A.deeper (deedEnv L1)) (execs (deedBody.drop 2) (deedEnv L1)) Q E s := by
  dsimp only [deedEnv]
  conv in List.drop 2 deedBody => whnf
  conv in (occs := *) deedScope => all_goals whnf
  try dsimp only
  rw [← overA_eq (l := [(Str.ofString "table", .ref x), (Str.ofString "kind", .int 7 tk)]) (M := m) (by simp only [List.forall_mem_cons]; exact ⟨m1, m2, fun _ h => nomatch h⟩)] at F
  simp only [overA] at F
  have hsz := B.small'
  have hA1 : (Str.ofString "A").length ≤ 1000 := by decide +kernel
  have hA2 : ctlIn isCtlN (Txt.lower (Str.ofString "A")).cps = false := by decide +kernel
  have hs2 : (ps.filter (fun q => !(Txt.lower q.1 == Txt.lower (Str.ofString "A")))).length < 1000 := Nat.lt_of_le_of_lt cutN_len hs
  k_steps
  refine hold_elim ?_
  rename_i D h1 t1 F1 N1 l0
  k_dflt (refine' init_any ?S (.head _) ?hz (B.tail.P) hb ?ok ?bv ?ba; (case S => walk_at "mk_sit"); k_whole)
  case hz => exact hsz
  case bv =>
    intro hg e t g' h' t' news' tk' F' R' U' sub
    k_steps
    (try dsimp only)
    exact no _ _ _ _ _ _ _ hg (by assumption) (by assumption) (by assumption) (fun q hq => sub q (.tail _ hq))
  case ba =>
    intro hg e t g' h' t' news' v tk' bA F' R' U' sub
    k_steps
    (try dsimp only)
    exact no _ _ _ _ _ _ _ hg (by assumption) (by assumption) (by assumption) (fun q hq => sub q (.tail _ hq))
  case ok =>
    intro hg y yd h' t' ytl F' N' l1 l2
    have B9 : Box w ((y, instObj 184 yd) :: (yd, dictOf [⟨PyData.keyHash w.params (Str.ofString "_headers"), .str (Str.ofString "_headers") ytl, .ref D⟩] 1) :: (D, listOf its 0) :: news) y D yd ytl its 0 ps := ⟨.head _, .tail _ (.head _), .tail _ (.tail _ (.head _)), B.P.mono (fun q hq => .tail _ (.tail _ (.tail _ hq))), B.small⟩
    have keep : ∀ q ∈ news, q.1 ≠ D := fun q hq => Nat.ne_of_lt (l0 q hq)
    clear l0 l1 l2
    k_steps
    rename Kept D _ _ => K2
    rename Kept D (_ :: _) _ => K1
    rename News _ _ _ _ => N9
    rename (List.length _ = _ + 1) => e9
    rw [show List.length _ = (cutN (Str.ofString "A") ps).length + 1 from e9] at N9
    rename (∀ q : Addr × Obj, q ∈ _ → q.1 < _) => l9
    have subN : ∀ q ∈ news, q ∈ _ := fun q hq => K2 q (K1 q (.tail _ (.tail _ (.tail _ hq))) (keep q hq)) (keep q hq)
    exact ok _ _ _ _ _ _ _ _ _ _ hg (.head _) (fun q hq => Nat.ne_of_lt (l9 q (subN q hq))) T0 (by assumption) N9 (fun q hq => .tail _ (subN q hq))
end
theorem offH29 : True := trivial
theorem offgTAIL : True := trivial
end
end
section
theorem kw120 : True := by
  w_top off
  trivial
local macro_rules | `(tactic| walk_at "enter_try") => `(tactic| (walk_at "code_try"; k_whole; intro g' L' h' tk' FG' F' N' B' X' T' D' T0'; (try dsimp only); (try k_lift B'); (try k_fold)))
theorem kw119 : True := by
  k_with "code_try" => (fail_if_success have := @offH30); (refine' code_try ?k1w251 ?k2w251 ?k3w251 ?k4w251 ?k5w251 ?kAw251 ?kFw251 ?kKw251 ?k6w251 ?k7w251 ?k8w251 ?k9w251 ?kBw251 ?_ ?c2w251 ?c3w251 ?c4w251 ?c5w251; (case k1w251 => k_asm); (case k2w251 => k_asm); (case k3w251 => k_asm); (case k4w251 => k_asm); (case k5w251 => k_asm); (case kAw251 => assumption); (case kFw251 => assumption); (case kKw251 => assumption); (case k6w251 => k_is); (case k7w251 => k_is); (case k8w251 => k_room); (case k9w251 => first | exact BindsTo.of_eq rfl | exact binds_K (by k_in) rfl (by k_is) rfl rfl rfl | fail "k_enter: no rule for these arguments"); (case kBw251 => exact locs rfl); (case c5w251 => decide); (case c2w251 => exact rfl); (case c3w251 => exact rfl); (case c4w251 => exact rfl))
  k_with "call type:str" => (fail_if_success have := @offH30); ((with_reducible show wpAny _ _ (call (Value.type "str") [Value.ref _]) _ _ _); (first | refine' str_got_one PySem.F.excStr_AssertionError ?Nw252 ?Gw252 ?Uw252 ?_ | refine' str_got_one PySem.F.excStr_ValueError ?Nw252 ?Gw252 ?Uw252 ?_ | refine' str_got_one PySem.F.excStr_TypeError ?Nw252 ?Gw252 ?Uw252 ?_); (case Gw252 => with_reducible assumption); (case Nw252 => with_reducible assumption); (case Uw252 => exact units_deed (by with_reducible assumption)))
  k_with "exec If" => (fail_if_success have := @offH30); refine wpAny_If ?_
  k_with "subscriptTail Name Name ref int" => (fail_if_success have := @offH30); (refine' name_pick2 ?Nw254 ?hlw254 ?hzw254 ?h7w254 ?_; (case Nw254 => k_asm); (case hlw254 => k_mem); (case hzw254 => with_reducible assumption); (case h7w254 => first | exact nv_last | exact .inr ⟨rfl, rfl, _, rfl⟩); intro _ _)
  k_with "compareOp In int ref" => (fail_if_success have := @offH30); (refine' in_tupK (ns := [3, 4]) ?Nw255 ?hmw255 ?hbw255 ?hiw255 ?_; (case Nw255 => k_asm); (case hmw255 => k_mem); (case hbw255 => with_reducible assumption); (case hiw255 => exact .cons _ _ (.cons _ _ .nil)))
  k_with "execs cons" => (fail_if_success have := @offH30); ((with_reducible show wpAny _ _ (execs (Stmt.Try _ _ _ _ _ :: _) _) _ _ _); refine hold_intro ?_)
  trivial
section
variable {w : World} {A A₀ : Around} {E : Value → Shared → Prop} {s : Shared} {h₀ : Heap} {env : Env} {L x l d gl : Addr} {tl : Tok} {m mg mb : Str → Option Value} {news : List (Addr × Obj)}
   {p : Program} {loose : List Str} {mean : ExcName → Option Value} {Q : Value → Shared → Prop} {its : Array Value} {n : Nat} {ps : List (Str × Value)} {kind place value extra : Int} {sg : Str} {tk tp tv te ts : Tok} {b : Bool}
theorem deed_head (S : Sit w A A₀ h₀ h₀ env [] L m p loose mean mg mb news s.heap 61) (hsg : SignOk sg) (hb : decide (kind ∈ ([3, 4] : List Int)) = b) (hp : 0 ≤ place ∧ place < 8)
   (h : ∀ g L1 h1 t1 m1 news1 D nv, (hd.heap_39 w.params).In g → Top p loose mean mg mb g → Below A h₀ [env] g → Fr g L1 h1 m1 → News g L1 h1 news1 → KtsDicts ([env].filterMap (·.frame)) g → KtsTurn ([env].filterMap (·.frame)) g g → (∀ q ∈ news, q ∈ news1) → TextsAt news1 sg D → NvAt sg b place nv →
      m1 (Str.ofString "table") = some (.ref x) → m1 (Str.ofString "given") = some (.ref gl) → m1 (Str.ofString "kind") = some (.int kind tk) → m1 (Str.ofString "place") = some (.int place tp) → m1 (Str.ofString "value") = some (.int value tv) → m1 (Str.ofString "extra") = some (.int extra te) → m1 (Str.ofString "texts") = some (.ref D) → m1 (Str.ofString "name") = some nv →
      ∀ Q' E', (∀ g' L' m' h' t' news' v, KtsTurn ([env].filterMap (·.frame)) g g' → Fr g' L' h' m' → News g' L' h' news' → (Fr h₀ L h' m → News h₀ L h' news' → Q v {s with heap := h', toks := t'}) → Q' (.ret v) {s with heap := h', toks := t'}) →
      wpAny (model pg w) (A.deeper (deedEnv L1)) (execs (deedBody.drop 2) (deedEnv L1)) Q' E' {s with heap := h1, toks := t1}) :
   wpAny (model pg w) A (call (.ref 195) [.ref x, .ref gl, .int kind tk, .int place tp, .int value tv, .int extra te, .str sg ts]) Q E s := by
  obtain ⟨KX, T, B', F, N, hA, hf, hke, hroom, hh⟩ := S
  have hsl : sg.length = 1 := sign_len hsg
  have hsl2 : sg.length ≤ 1000 := by omega
  have ha1 : (Str.ofString "x" ++ sg).length ≤ 1000 := app_len1 (by decide +kernel) hsl
  have ha2 : (sg ++ Str.ofString "x").length ≤ 1000 := app_len2 hsl (by decide +kernel)
  have ha3 : (Str.ofString "b" ++ sg).length ≤ 1000 := app_len1 (by decide +kernel) hsl
  have ha4 : (sg ++ Str.ofString "A").length ≤ 1000 := app_len2 hsl (by decide +kernel)
  refine wpAny_call ?_
  walk_at "enter_try"
  cases b with
  | true =>
    k_steps
    refine hold_elim ?_
    rename News _ _ _ _ => N9
    rename Fr _ _ _ _ => F9
    refine h _ _ _ _ _ _ _ _ (by assumption) (by assumption) (by assumption) F9 N9 (by assumption) (by assumption) (fun q hq => .tail _ (.tail _ (.tail _ hq))) ⟨_, _, _, _, _, _, _, _, .tail _ (.tail _ (.head _))⟩ (by assumption) rfl rfl rfl rfl rfl rfl rfl rfl qk ek ?_
    intro g2 L2 m2 h2 t2 news2 v T2 F2 N2 k
    exact leaveT_plain T2 F2 N2 k
  | false =>
    k_steps
    refine hold_elim ?_
    rename News _ _ _ _ => N9
    rename Fr _ _ _ _ => F9
    refine h _ _ _ _ _ _ _ _ (by assumption) (by assumption) (by assumption) F9 N9 (by assumption) (by assumption) (fun q hq => .tail _ (.tail _ (.tail _ hq))) ⟨_, _, _, _, _, _, _, _, .tail _ (.tail _ (.head _))⟩ (by assumption) rfl rfl rfl rfl rfl rfl rfl rfl qk ek ?_
    intro g2 L2 m2 h2 t2 news2 v T2 F2 N2 k
    exact leaveT_plain T2 F2 N2 k
end
theorem offH30 : True := trivial
end
section
theorem kw121 : True := by
  w_top off
  trivial
section
variable {w : World} {A A₀ : Around} {E : Value → Shared → Prop} {s : Shared} {h₀ : Heap} {env : Env} {L : Addr} {m mg mb : Str → Option Value} {news : List (Addr × Obj)}
   {p : Program} {loose : List Str} {mean : ExcName → Option Value} {Q : Value → Shared → Prop} {kind place value extra : Int} {sg : Str} {tk tp tv te ts : Tok} {T : Tb} {ps : Nat → List (Str × Value)} {t : Nat}
/-- a deed, whatever its kind -/
theorem deed_all (S : Sit w A A₀ h₀ h₀ env [] L m p loose mean mg mb news s.heap 61) (hu : A.units + 64 < cLine) (H : Homes w news T ps) (D : T.Apart) (hok : ∀ i < 3, ∀ q ∈ ps i, PairOk q) (hlen : ∀ i < 3, (ps i).length < 900) (ht : t < 4) (hsg : SignOk sg)
   (hk : 0 ≤ kind ∧ kind < 8) (hp : 0 ≤ place ∧ place < 8) (hv : 0 ≤ value ∧ value < 8) (he : 0 ≤ extra ∧ extra < 8)
   (h : ∀ h' t' news' ps' ans v, DueAll kind place value extra sg (homeOf t) (fun i => rowsL (ps i)) (fun i => rowsL (ps' i)) ans → (∀ i < 3, Grown (ps i) (ps' i)) → Fr h₀ L h' m → News h₀ L h' news' → KeptL T news news' → Homes w news' T ps' → AnsIs news news' ans v → Q v {s with heap := h', toks := t'}) :
   wpAny (model pg w) A (call (.ref 195) [.ref (T.X t), .ref (T.Lh 0), .int kind tk, .int place tp, .int value tv, .int extra te, .str sg ts]) Q E s := by
  have hh3 := homeOf_lt ht
  have same : ∀ i < 3, Grown (ps i) (ps i) := fun i hi => ⟨hok i hi, by omega⟩
  have grown : ∀ {k : Nat} {ps' : List (Str × Value)}, Grown (ps k) ps' → ∀ i < 3, Grown (ps i) (updf ps k ps' i) := fun {k ps'} g i hi => by
    by_cases e : i = k
    · rw [e, updf_self]; exact g
    · rw [updf_ne _ _ e]; exact same i hi
  have hb : ∀ i < 3, ∀ q ∈ ps i, VBig q.2 := fun i hi q hq => (hok i hi q hq).1
  have S0 := S
  obtain ⟨KX0, TX0, B0, F0, N0, hA, hf, hke, hroom, hh⟩ := S0
  have hroom' : A.depth + 60 < recursionLimit := by omega
  have fin : ∀ {n1 : List (Addr × Obj)} h' t' news' its' n' ps' a tw, (∀ q ∈ news, q ∈ n1) → DueK kind place value extra sg (rowsL (ps (homeOf t))) (rowsL ps') a → Grown (ps (homeOf t)) ps' → Fr h₀ L h' m → News h₀ L h' news' → Kept (T.Lh (homeOf t)) n1 news' → Box w news' (T.X t) (T.Lh (homeOf t)) (T.Dd t) (T.TL t) its' n' ps' → Q (.str a tw) {s with heap := h', toks := t'} := by
    intro n1 h' t' news' its' n' ps' a tw sub dd gr F N K B
    have K' : Kept (T.Lh (homeOf t)) news news' := K.sub sub
    exact h _ _ _ (updf ps (homeOf t) ps') (.txt a) _ (.inl ⟨rowsL ps', a, dd, updf_map rowsL ps _ _, rfl⟩) (grown gr) F N (keptL_of hh3 K') (Homes.step N0 H D ht K' B) ⟨tw, rfl⟩
  have fin0 : ∀ {n1 : List (Addr × Obj)} h' t' news' its' n' ps' tw, (∀ q ∈ news, q ∈ n1) → DueAll kind place value extra sg (homeOf t) (fun i => rowsL (ps i)) (updf (fun i => rowsL (ps i)) 0 (rowsL ps')) (.txt (Str.ofString "")) → Grown (ps 0) ps' → Fr h₀ L h' m → News h₀ L h' news' → Kept (T.Lh 0) n1 news' → Box w news' (T.X 0) (T.Lh 0) (T.Dd 0) (T.TL 0) its' n' ps' → Q (.str (Str.ofString "") tw) {s with heap := h', toks := t'} := by
    intro n1 h' t' news' its' n' ps' tw sub dd gr F N K B
    have K' : Kept (T.Lh 0) news news' := K.sub sub
    refine h _ _ _ (updf ps 0 ps') (.txt (Str.ofString "")) _ ?_ (grown gr) F N (keptL_of (by decide) K') (Homes.step (t := 0) N0 H D (by decide) K' B) ⟨tw, rfl⟩
    rw [updf_map rowsL ps _ _]
    exact dd
  refine deed_head (b := decide (kind ∈ ([3, 4] : List Int))) S hsg rfl hp ?_
  intro g L1 h1 t1 m1 news1 D1 nv KXg Tg Bg F1 N1 KD T0 sub hD hnv e1 e2 e3 e4 e5 e6 e7 e8 Q' E' hq
  obtain ⟨its, k, B⟩ := H t ht
  obtain ⟨its0, k0, Bz⟩ := H 0 (by decide)
  have hk' : kind = 0 ∨ kind = 1 ∨ kind = 2 ∨ kind = 3 ∨ kind = 4 ∨ kind = 5 ∨ kind = 6 ∨ kind = 7 := zlt8 (by first | with_reducible assumption | omega)
  have hl1 : (ps (homeOf t)).length < 1000 := by have := hlen _ hh3; omega
  have hl0 : (ps 0).length < 1000 := by have := hlen 0 (by decide); omega
  rcases hk' with rfl | rfl | rfl | rfl | rfl | rfl | rfl | rfl
  · obtain ⟨nm, tn, rfl, hn⟩ := NvAt.small (show NvAt sg false place nv from hnv)
    refine tail0 KX0 TX0 KXg Tg Bg F1 N1 KD T0 hf hke hroom' hh hu (B.mono sub) hl1 hsg hv hD (hn.ns hsg) e1 e3 e5 e7 e8 ?_
    intro g' L' m' h' t' news' its' n' ps' v ans tw tx out T F N K B'
    refine hq _ _ _ _ _ _ _ T F N fun F2 N2 => ?_
    obtain ⟨dd, gr⟩ := due_set hsg hn tx (hok _ hh3) out
    exact fin _ _ _ _ _ _ _ _ sub (.inl ⟨rfl, dd⟩) gr F2 N2 K B'
  · obtain ⟨nm, tn, rfl, hn⟩ := NvAt.small (show NvAt sg false place nv from hnv)
    refine tail1 KX0 TX0 KXg Tg Bg F1 N1 KD T0 hf hke hroom' hh hu (B.mono sub) hl1 (hn.ns hsg) e1 e3 e8 ?_
    intro g' L' m' h' t' news' its' n' ps' ans tw out T F N K B'
    refine hq _ _ _ _ _ _ _ T F N fun F2 N2 => ?_
    obtain ⟨dd, gr⟩ := due_del hsg hn (hok _ hh3) out
    exact fin _ _ _ _ _ _ _ _ sub (.inr (.inl ⟨rfl, dd⟩)) gr F2 N2 K B'
  · obtain ⟨nm, tn, rfl, hn⟩ := NvAt.small (show NvAt sg false place nv from hnv)
    refine tail2 KX0 TX0 KXg Tg Bg F1 N1 KD T0 hf hke hroom' hh hu (B.mono sub) hl1 (hn.ns hsg) (hb _ hh3) hsg hD hv e1 e3 e5 e7 e8 ?_
    intro g' L' m' h' t' news' its' n' ps' v ans tw tx out T F N K B'
    refine hq _ _ _ _ _ _ _ T F N fun F2 N2 => ?_
    obtain ⟨dd, gr⟩ := due_def hsg hn tx (hok _ hh3) out
    exact fin _ _ _ _ _ _ _ _ sub (.inr (.inr (.inl ⟨rfl, dd⟩))) gr F2 N2 K B'
  · have hnv : NvAt sg true place nv := hnv
    refine tail3 KX0 TX0 KXg Tg Bg F1 N1 KD T0 hf hke hroom' hh hu (B.mono sub) hl1 (hnv.vok hsg) hsg hD hv e1 e3 e5 e7 e8 ?_
    intro g' L' m' h' t' news' its' n' ps' v ans tw tx out T F N K B'
    refine hq _ _ _ _ _ _ _ T F N fun F2 N2 => ?_
    obtain ⟨dd, gr⟩ := due_add3 hsg hnv tx (hok _ hh3) out
    exact fin _ _ _ _ _ _ _ _ sub (.inr (.inr (.inr (.inl ⟨rfl, dd⟩)))) gr F2 N2 K B'
  · have hnv : NvAt sg true place nv := hnv
    refine tail4 KX0 TX0 KXg Tg Bg F1 N1 KD T0 hf hke hroom' hh hu (B.mono sub) hl1 (hnv.vok hsg) hsg hD hv he e1 e3 e5 e6 e7 e8 ?_
    intro g' L' m' h' t' news' its' n' ps' v pv ans tw tx tx2 out T F N K B'
    refine hq _ _ _ _ _ _ _ T F N fun F2 N2 => ?_
    obtain ⟨dd, gr⟩ := due_add4 hsg hnv tx tx2 (hok _ hh3) out
    exact fin _ _ _ _ _ _ _ _ sub (.inr (.inr (.inr (.inr ⟨rfl, dd⟩)))) gr F2 N2 K B'
  · obtain ⟨nm, tn, rfl, hn⟩ := NvAt.small (show NvAt sg false place nv from hnv)
    refine tail5 KX0 TX0 KXg Tg Bg F1 N1 KD T0 hf hke hroom' hh hu (Bz.mono sub) hl0 (hn.ns hsg) hv hsg hD e2 e3 e5 e7 e8 ?_
    intro g' L' m' h' t' news' its' n' v tw tx T F N K B'
    refine hq _ _ _ _ _ _ _ T F N fun F2 N2 => ?_
    obtain ⟨dd, gr⟩ := due_out hsg hn tx (hok 0 (by decide))
    exact fin0 _ _ _ _ _ _ _ sub (.inr (.inl ⟨rfl, by rw [dd], rfl⟩)) gr F2 N2 K B'
  · by_cases hp4 : place < 4
    · refine tail6 KX0 TX0 KXg Tg Bg F1 N1 KD T0 hf hke hroom' hh hu (Bz.mono sub) hl0 hp4 e2 e3 e4 ?_
      intro g' L' m' h' t' news' its' n' tw T F N K B'
      refine hq _ _ _ _ _ _ _ T F N fun F2 N2 => ?_
      obtain ⟨dd, gr⟩ := due_turn hp4 (hok 0 (by decide))
      exact fin0 _ _ _ _ _ _ _ sub (.inr (.inr (.inl ⟨rfl, by rw [dd], rfl⟩))) gr F2 N2 K B'
    · refine tail6c KX0 TX0 KXg Tg Bg F1 N1 KD T0 hf hke hroom' hh hu (Bz.mono sub) hl0 (by omega) e2 e3 e4 ?_
      intro g' L' m' h' t' news' its' n' tw T F N K B'
      refine hq _ _ _ _ _ _ _ T F N fun F2 N2 => ?_
      obtain ⟨dd, gr⟩ := due_void (ps := ps 0) (show 4 ≤ place by omega)
      exact fin0 _ _ _ _ _ _ _ sub (.inr (.inr (.inl ⟨rfl, by rw [dd], rfl⟩))) gr F2 N2 K B'
  · refine tail7 KX0 TX0 KXg Tg Bg F1 N1 KD T0 hf hke hroom' hh hu (B.mono sub) hl1 (hb _ hh3) e1 e3 ?_ ?_
    · intro g' L' m' h' t' news' R k t1 t2 hg hm fr T F N sub'
      refine hq _ _ _ _ _ _ _ T F N fun F2 N2 => ?_
      exact h _ _ _ ps _ _ (.inr (.inr (.inr ⟨rfl, rfl, rfl⟩))) same F2 N2 (fun q hq _ => sub' q (sub q hq)) (H.mono fun q hq => sub' q (sub q hq)) (by rw [copy_good (hok _ hh3) hg]; exact ⟨R, k, t1, t2, rfl, hm, fun q hq => fr q (sub q hq)⟩)
    · intro g' L' m' h' t' news' tw hg T F N sub'
      refine hq _ _ _ _ _ _ _ T F N fun F2 N2 => ?_
      exact h _ _ _ ps _ _ (.inr (.inr (.inr ⟨rfl, rfl, rfl⟩))) same F2 N2 (fun q hq _ => sub' q (sub q hq)) (H.mono fun q hq => sub' q (sub q hq)) (by rw [copy_bad (hok _ hh3) hg]; exact ⟨tw, rfl⟩)
end
end
section
theorem kw123 : True := by
  w_top off
  trivial
section
theorem kw122 : True := by
  k_with "agree" => (fail_if_success have := @offH62); first | with_reducible assumption | exact Agree.start | (refine' Agree.set ?_ ?kww257; (case kww257 => decide); walk_at "agree") | (refine' Agree.same ?_ ?kww257; (case kww257 => with_reducible assumption); walk_at "agree")
  k_with "kin" => (fail_if_success have := @offH62); first | with_reducible assumption | exact List.Mem.head _ | (refine List.mem_cons_of_mem _ ?_; walk_at "kin")
  k_with "call ref" => (fail_if_success have := @offH62); ((with_reducible show wpAny _ _ (call (Value.ref 195) _) _ _ _); refine hold_intro ?_)
  k_with "call ref" => (fail_if_success have := @offH62); ((with_reducible show wpAny _ _ (call (Value.ref 200) _) _ _ _); refine hold_intro ?_)
  k_with "subscriptTail Name Name ref int" => (fail_if_success have := @offH62); (refine' item_at ?Nw261 ?hlw261 ?hvw261 ?h0w261 ?hzw261 ?_; (case hvw261 => with_reducible assumption); (case Nw261 => k_asm); (case hlw261 => k_mem); (case h0w261 => with_reducible assumption); (case hzw261 => with_reducible assumption))
  k_with "execs cons" => (fail_if_success have := @offH62); ((with_reducible show wpAny _ _ (execs (Stmt.Assign _ _ _ :: _) _) _ _ _); refine hold_intro ?_)
  trivial
section
variable {w : World} {A A₀ : Around} {E : Value → Shared → Prop} {s : Shared} {h₀ : Heap} {L fa : Addr} {cd : Value} {m mg mb : Str → Option Value} {news : List (Addr × Obj)}
   {p : Program} {loose : List Str} {mean : ExcName → Option Value} {Q : Flow → Shared → Prop} {kind place value extra fg : Int} {sg : Str} {tk tt tp tv te tf ts th : Tok} {turn home : Nat}
   {T : Tb} {ps : Nat → List (Str × Value)} {r : Addr} {rk : Nat} {ra : Nat → Addr} {Rs : Nat → List Str} {TT tl dl : Addr} {tls dls : List Value} {fz : List (Addr × Obj)}
theorem turn2 (S : Sit w A A₀ h₀ h₀ (envOfC (Str.ofString "law") lawScope L fa cd) [] L m p loose mean mg mb news s.heap 100) (hu : A.units + 70 < cLine)
   (X : LS w news T ps r rk ra (fun i => rowsL (ps i)) TT tl dl tls dls fz) (hok : ∀ i < 3, ∀ q ∈ ps i, PairOk q) (hlen : ∀ i < 3, (ps i).length < 900) (ht : turn < 4) (hsg : SignOk sg) (hk : 0 ≤ kind ∧ kind < 8) (hp : 0 ≤ place ∧ place < 8) (hv : 0 ≤ value ∧ value < 8) (he : 0 ≤ extra ∧ extra < 8) (hts : tls.length ≤ 500) (hds : dls.length ≤ 500)
   (m1 : m (Str.ofString "told") = some (.ref tl)) (m2 : m (Str.ofString "due") = some (.ref dl)) (m3 : m (Str.ofString "tables") = some (.ref TT)) (m4 : m (Str.ofString "rows") = some (.ref r)) (m5 : m (Str.ofString "given") = some (.ref (T.Lh 0))) (m6 : m (Str.ofString "home") = some (.int (homeOf turn : Int) th)) (m7 : m (Str.ofString "kind") = some (.int kind tk)) (m8 : m (Str.ofString "turn") = some (.int (turn : Int) tt)) (m9 : m (Str.ofString "place") = some (.int place tp)) (m10 : m (Str.ofString "value") = some (.int value tv)) (m11 : m (Str.ofString "extra") = some (.int extra te)) (m12 : m (Str.ofString "sign") = some (.str sg ts))
   (h : ∀ h1 t1 m1 news1 ps' rk' ra' fz' ans v u, DueAll kind place value extra sg (homeOf turn) (fun i => rowsL (ps i)) (fun i => rowsL (ps' i)) ans → (∀ i < 3, Grown (ps i) (ps' i)) → Fr h₀ L h1 m1 → News h₀ L h1 news1 → Agree [] m m1 → (∀ p ∈ fz, p ∈ fz') → AnsIn fz' ans v → AnsIn fz' ans u → LS w news1 T ps' r rk' ra' (fun i => rowsL (ps' i)) TT tl dl (tls ++ [v]) (dls ++ [u]) fz' → wpAny (model pg w) A (execs (loopBody.drop 4) (envOfC (Str.ofString "law") lawScope L fa cd)) Q E {s with heap := h1, toks := t1}) :
   wpAny (model pg w) A (execs (loopBody.drop 2) (envOfC (Str.ofString "law") lawScope L fa cd)) Q E s := by
  revert S
  conv in List.drop 2 loopBody => whnf
  conv in (occs := *) lawScope => all_goals whnf
  try dsimp only
  intro S
  obtain ⟨KX, T', B', F, N, hA, hf, hke, hroom, hh⟩ := S
  rw [← overA_eq (l := [(Str.ofString "told", .ref tl), (Str.ofString "due", .ref dl), (Str.ofString "tables", .ref TT), (Str.ofString "rows", .ref r), (Str.ofString "given", .ref (T.Lh 0)), (Str.ofString "home", .int (homeOf turn : Int) th), (Str.ofString "kind", .int kind tk), (Str.ofString "turn", .int (turn : Int) tt), (Str.ofString "place", .int place tp), (Str.ofString "value", .int value tv), (Str.ofString "extra", .int extra te), (Str.ofString "sign", .str sg ts)]) (M := m) (by simp only [List.forall_mem_cons]; exact ⟨m1, m2, m3, m4, m5, m6, m7, m8, m9, m10, m11, m12, fun _ h => nomatch h⟩)] at F
  simp only [overA] at F
  have hu2 : A.units + 64 < cLine := room0 hu (by decide)
  obtain ⟨kT, hTT⟩ := X.tt
  have hTn := X.fr _ hTT
  have hX : (#[Value.ref (T.X 0), .ref (T.X 1), .ref (T.X 2), .ref (T.X 3)] : Array Value).toList[(turn : Int).toNat]? = some (.ref (T.X turn)) := by
    have : turn = 0 ∨ turn = 1 ∨ turn = 2 ∨ turn = 3 := nlt4 (by first | with_reducible assumption | omega)
    rcases this with rfl | rfl | rfl | rfl <;> rfl
  have z0 : (0 : Int) ≤ (turn : Int) := Int.natCast_nonneg _
  have z1 : ((turn : Nat) : Int) < 1000 := Int.ofNat_lt.mpr (Nat.lt_of_lt_of_le ht (by decide))
  have z2 : tls.toArray.size ≤ 1000 := Nat.le_trans hts (by decide)
  have z3 : dls.toArray.size ≤ 1000 := Nat.le_trans hds (by decide)
  obtain ⟨k1, hto1⟩ := X.to
  k_steps
  refine hold_elim ?_
  rename News _ _ _ _ => N1
  rename Fr _ _ _ _ => F1
  refine deed_all ⟨KX, T', B', F1, N1, hA, hf, hke, room0 hroom (by decide), hh⟩ hu2 X.H X.D hok hlen ht hsg hk hp hv he ?_
  intro h' t' news' ps' ans v dd gr F N K H An
  have X1 := X.deed K H
  obtain ⟨fz', sub1, An1, X2⟩ := ans_in X X1 N An
  clear X1 An
  obtain ⟨k2, hto⟩ := X2.to
  k_steps
  rename Kept tl _ _ => K3
  rename ((tl, _) ∈ _) => mm3
  rename News _ _ _ _ => N3
  rw [List.push_toArray] at mm3
  have X3 := LS.told (v := v) N X2 K3 mm3
  obtain ⟨k3, hdu⟩ := X3.du
  clear K3 mm3 hto hto1 N
  k_steps
  refine hold_elim ?_
  rename News _ _ _ _ => N4
  rename Fr _ _ _ _ => F4
  refine due_all ⟨KX, T', B', F4, N4, hA, hf, hke, room0 hroom (by decide), hh⟩ X3.R hlen (homeOf_lt ht) hsg hk hp hv he ?_
  intro h' t' news' rk' ra' Rs' ans2 u dd2 F N K R hf2 An2
  obtain ⟨e1, e2⟩ := DueAll.fn dd dd2
  subst e1
  subst e2
  have X4 := LS.due N4 X3 K R hf2
  obtain ⟨fz2, sub2, An3, X5⟩ := ans_in X3 X4 N An2
  clear X4 An2 K R hf2 dd2
  obtain ⟨k4, hdu2⟩ := X5.du
  k_steps
  refine hold_elim ?_
  rename Kept dl _ _ => K5
  rename ((dl, _) ∈ _) => mm5
  rename News _ _ _ _ => N5
  rename Fr _ _ _ _ => F5
  rw [List.push_toArray] at mm5
  exact h _ _ _ _ _ _ _ _ _ _ _ dd gr F5 N5 (by walk_at "agree") (fun p hp => sub2 p (sub1 p hp)) (An1.mono sub2) An3 (LS.dued (v := u) N X5 K5 mm5)
end
end
theorem offH62 : True := trivial
end
section
theorem kw124 : True := by
  w_top off
  trivial
theorem paired_app {α β : Type} {F : α → β → Prop} {a c : List α} {b d : List β} (h : Paired F a b) (h2 : Paired F c d) : Paired F (a ++ c) (b ++ d) := by
  induction h with
  | nil => exact h2
  | cons h _ ih => exact .cons h ih
theorem paired_snoc {α β : Type} {F : α → β → Prop} {a : List α} {b : List β} {x : α} {y : β} (h : Paired F a b) (h2 : F x y) : Paired F (a ++ [x]) (b ++ [y]) := paired_app h (.cons h2 .nil)
section
variable {w : World} {A A₀ : Around} {E : Value → Shared → Prop} {s : Shared} {h₀ : Heap} {L fa : Addr} {cd : Value} {m mg mb : Str → Option Value} {news : List (Addr × Obj)}
   {p : Program} {loose : List Str} {mean : ExcName → Option Value} {Q : Flow → Shared → Prop} {kind place value extra fg : Int} {sg : Str} {tk tt tp tv te tf ts th : Tok} {turn home : Nat}
   {T : Tb} {ps : Nat → List (Str × Value)} {r : Addr} {rk : Nat} {ra : Nat → Addr} {Rs : Nat → List Str} {TT tl dl : Addr} {tls dls : List Value} {fz : List (Addr × Obj)}
theorem Agree.more {S S2 : List Str} {M M2 M3 : Str → Option Value} (h1 : Agree S M M2) (h2 : Agree S2 M2 M3) : Agree (S ++ S2) M M3 := fun y hy => (h2 y fun h => hy (List.mem_append_right _ h)).trans (h1 y fun h => hy (List.mem_append_left _ h))
theorem law_turn (S : Sit w A A₀ h₀ h₀ (envOfC (Str.ofString "law") lawScope L fa cd) [] L m p loose mean mg mb news s.heap 100) (hu : A.units + 70 < cLine)
   (X : LS w news T ps r rk ra (fun i => rowsL (ps i)) TT tl dl tls dls fz) (hal : Paired (Alike fz 2) tls dls) (hok : ∀ i < 3, ∀ q ∈ ps i, PairOk q) (hlen : ∀ i < 3, (ps i).length < 800) (ht : turn < 4) (h0 : 0 ≤ fg) (h33 : fg < 33) (hk : 0 ≤ kind ∧ kind < 8) (hp : 0 ≤ place ∧ place < 8) (hv : 0 ≤ value ∧ value < 8) (he : 0 ≤ extra ∧ extra < 8) (hts : tls.length ≤ 450)
   (m1 : m (Str.ofString "told") = some (.ref tl)) (m2 : m (Str.ofString "due") = some (.ref dl)) (m3 : m (Str.ofString "tables") = some (.ref TT)) (m4 : m (Str.ofString "rows") = some (.ref r)) (m5 : m (Str.ofString "given") = some (.ref (T.Lh 0))) (m6 : m (Str.ofString "kind") = some (.int kind tk)) (m7 : m (Str.ofString "turn") = some (.int (turn : Int) tt)) (m8 : m (Str.ofString "place") = some (.int place tp)) (m9 : m (Str.ofString "value") = some (.int value tv)) (m10 : m (Str.ofString "extra") = some (.int extra te)) (m11 : m (Str.ofString "figure") = some (.int fg tf))
   (h : ∀ h1 t1 m1 news1 ps' rk' ra' ts' ds' fz' ans, Fr h₀ L h1 m1 → News h₀ L h1 news1 → Agree [Str.ofString "sign", Str.ofString "home", Str.ofString "sizes", Str.ofString "shown"] m m1 → (∀ p ∈ fz, p ∈ fz') → DueAll kind place value extra (signOf fg) (homeOf turn) (fun i => rowsL (ps i)) (fun i => rowsL (ps' i)) ans → (∀ i < 3, Grown (ps i) (ps' i)) → LS w news1 T ps' r rk' ra' (fun i => rowsL (ps' i)) TT tl dl ts' ds' fz' → Paired (Alike fz' 2) ts' ds' → ts'.length = tls.length + 5 → Q .next {s with heap := h1, toks := t1}) :
   wpAny (model pg w) A (execs loopBody (envOfC (Str.ofString "law") lawScope L fa cd)) Q E s := by
  have hds : dls.length ≤ 450 := by rw [← paired_len' hal]; exact hts
  show wpAny (model pg w) A (execs (loopBody.drop 0) _) Q E s
  refine turn1 S hu h0 h33 ht m11 m7 ?_
  intro h1 t1 M1 n1 ts th F1 N1 sub1 A1 ms mh
  refine turn2 ⟨S.KX, S.T, S.B, F1, N1, S.hA, S.hf, S.hke, S.hroom, S.hh⟩ hu (X.grow sub1) hok (fun i hi => Nat.lt_of_lt_of_le (hlen i hi) (by decide)) ht (signOf_ok h0 h33) hk hp hv he (by omega) (by omega) ((A1 _ (by decide)).trans m1) ((A1 _ (by decide)).trans m2) ((A1 _ (by decide)).trans m3) ((A1 _ (by decide)).trans m4) ((A1 _ (by decide)).trans m5) mh ((A1 _ (by decide)).trans m6) ((A1 _ (by decide)).trans m7) ((A1 _ (by decide)).trans m8) ((A1 _ (by decide)).trans m9) ((A1 _ (by decide)).trans m10) ms ?_
  intro h2 t2 M2 n2 ps' rk' ra' fz2 ans v u dd gr F2 N2 A2 sub2 An1 An2 X2
  have A12 := A1.more A2
  have hlen2 : ∀ i < 3, (ps' i).length < 900 := fun i hi => by have := (gr i hi).2; have := hlen i hi; omega
  have al2 : Paired (Alike fz2 2) (tls ++ [v]) (dls ++ [u]) := paired_snoc (Paired.imp hal fun _ _ h => Alike.mono sub2 h) (AnsIn.alike An1 An2)
  refine turn3 ⟨S.KX, S.T, S.B, F2, N2, S.hA, S.hf, S.hke, S.hroom, S.hh⟩ hu X2.R hlen2 ((A12 _ (by decide)).trans m4) ?_
  intro h3 t3 M3 n3 SZ sits sk F3 N3 sub3 A3 mSZ hSZ hI fSZ
  have A13 := A12.more A3
  have X3 := (X2.grow sub3).add (p := (SZ, listOf sits sk)) hSZ (X2.fresh fSZ)
  refine turn4 ⟨S.KX, S.T, S.B, F3, N3, S.hA, S.hf, S.hke, S.hroom, S.hh⟩ hu X3 ht hlen2 (by rw [List.length_append]; show _ + 1 ≤ _; omega) (by rw [List.length_append]; show _ + 1 ≤ _; omega) (.head _) hI ((A13 _ (by decide)).trans m1) ((A13 _ (by decide)).trans m2) ((A13 _ (by decide)).trans m3) mSZ ((A3 _ (by decide)).trans ((A2 _ (by decide)).trans mh)) ((A13 _ (by decide)).trans m7) ?_
  intro h4 t4 M4 n4 zs us cs fz4 F4 N4 A4 hz hu4 hc sub4 X4
  have A14 := A13.more A4
  have lz := hz.length
  have lu := hu4.length
  have al4 : Paired (Alike fz4 2) (tls ++ [v] ++ zs) (dls ++ [u] ++ us) := paired_app (Paired.imp al2 fun _ _ h => Alike.mono (fun q hq => sub4 q (.tail _ hq)) h) (alike_ints hz hu4)
  refine turn5 ⟨S.KX, S.T, S.B, F4, N4, S.hA, S.hf, S.hke, S.hroom, S.hh⟩ hu X4 hlen2 (by rw [List.length_append, List.length_append]; show _ + 1 + _ ≤ _; omega) (by rw [List.length_append, List.length_append]; show _ + 1 + _ ≤ _; omega) (sub4 _ (.head _)) hI ((A14 _ (by decide)).trans m1) ((A14 _ (by decide)).trans m2) ((A14 _ (by decide)).trans m3) ((A4 _ (by decide)).trans mSZ) ?_
  intro h5 t5 M5 n5 v5 u5 fz5 F5 N5 A5 sub5 al5 X5
  refine h _ _ _ _ _ _ _ _ _ _ _ F5 N5 (A14.more A5) (fun p hp => sub5 _ (sub4 _ (.tail _ (sub2 _ hp)))) dd gr X5 (paired_snoc (Paired.imp al4 fun _ _ h => Alike.mono sub5 h) al5) ?_
  rw [List.length_append, List.length_append, List.length_append, lz, hc]
  rfl
end
end
section
theorem kw126 : True := by
  w_top off
  trivial
section
variable {prog : Program} {w : World} {A : Around} {E : Value → Shared → Prop} {s : Shared} {h₀ : Heap} {m : Str → Option Value} {news : List (Addr × Obj)} {env : Env}
theorem assign_six {x1 x2 x3 x4 x5 x6 : Str} {p1 p2 p3 p4 p5 p6 p : Pos} {k : Nat} {t : Addr} {v1 v2 v3 v4 v5 v6 : Value} {n : Nat} {Q : Unit → Shared → Prop} (hh : A.handled = none) (F : Fr h₀ env.locals s.heap m) (N : News h₀ env.locals s.heap news)
    (ht : (t, ({ cls := .type "tuple", data := .seq #[v1, v2, v3, v4, v5, v6] n } : Obj)) ∈ news) (h1 : env.kindOf x1 = some .local) (h2 : env.kindOf x2 = some .local) (h3 : env.kindOf x3 = some .local) (h4 : env.kindOf x4 = some .local) (h5 : env.kindOf x5 = some .local) (h6 : env.kindOf x6 = some .local) (hp : (env.scope.kind == .class || (env.scope.kind == .module && env.locals != env.globals)) = false)
    (h : ∀ h' tk, Fr h₀ env.locals h' (fun y => if y = x6 then some v6 else if y = x5 then some v5 else if y = x4 then some v4 else if y = x3 then some v3 else if y = x2 then some v2 else if y = x1 then some v1 else m y) → News h₀ env.locals h' news → Q () { s with heap := h', toks := tk }) :
    wpAny (model prog w) A (assign (.Tuple [.Name x1 p1, .Name x2 p2, .Name x3 p3, .Name x4 p4, .Name x5 p5, .Name x6 p6] k p) env (.ref t)) Q E s := by
  refine unpackN_ F N (items := #[v1, v2, v3, v4, v5, v6]) (N.isTup ht) hh rfl rfl fun h' F' N' => ?_
  show wpAny _ _ (assignInOrder [assign (.Name x1 p1) env, assign (.Name x2 p2) env, assign (.Name x3 p3) env, assign (.Name x4 p4) env, assign (.Name x5 p5) env, assign (.Name x6 p6) env] [v1, v2, v3, v4, v5, v6]) _ _ _
  refine assignInOrder_cons (wpAny_assign_Name (wpAny_storeName_local h1 F'.ns (fun g1 hn1 hs1 => ?_) hp))
  refine assignInOrder_cons (wpAny_assign_Name (wpAny_storeName_local h2 hn1 (fun g2 hn2 hs2 => ?_) hp))
  refine assignInOrder_cons (wpAny_assign_Name (wpAny_storeName_local h3 hn2 (fun g3 hn3 hs3 => ?_) hp))
  refine assignInOrder_cons (wpAny_assign_Name (wpAny_storeName_local h4 hn3 (fun g4 hn4 hs4 => ?_) hp))
  refine assignInOrder_cons (wpAny_assign_Name (wpAny_storeName_local h5 hn4 (fun g5 hn5 hs5 => ?_) hp))
  refine assignInOrder_cons (wpAny_assign_Name (wpAny_storeName_local h6 hn5 (fun g6 hn6 hs6 => assignInOrder_nil ?_) hp))
  exact h g6 _ ((((((F'.set hn1 hs1).set hn2 hs2).set hn3 hs3).set hn4 hs4).set hn5 hs5).set hn6 hs6) ((((((N'.set hs1).set hs2).set hs3).set hs4).set hs5).set hs6)
end
section
theorem kw125 : True := by
  k_with "agree" => (fail_if_success have := @offH71); first | with_reducible assumption | exact Agree.start | (refine' Agree.set ?_ ?kww263; (case kww263 => decide); walk_at "agree") | (refine' Agree.same ?_ ?kww263; (case kww263 => with_reducible assumption); walk_at "agree")
  k_with "kin" => (fail_if_success have := @offH71); first | with_reducible assumption | exact List.Mem.head _ | (refine List.mem_cons_of_mem _ ?_; walk_at "kin")
  k_with "execs cons" => (fail_if_success have := @offH71); ((with_reducible show wpAny _ _ (execs (Stmt.For _ _ _ _ _ :: _) _) _ _ _); refine hold_intro ?_)
  k_with "binaryOp Add ref ref" => (fail_if_success have := @offH71); refine hold_intro ?_
  k_with "pyIter ref" => (fail_if_success have := @offH71); refine hold_intro ?_
  trivial
section
variable {w : World} {A A₀ : Around} {E : Value → Shared → Prop} {s : Shared} {h₀ : Heap} {L fa : Addr} {cd : Value} {m mg mb : Str → Option Value} {news : List (Addr × Obj)}
   {p : Program} {loose : List Str} {mean : ExcName → Option Value} {Q : Flow → Shared → Prop} {kind place value extra fg : Int} {sg : Str} {tk tt tp tv te tf ts th : Tok} {turn home : Nat}
   {T : Tb} {ps : Nat → List (Str × Value)} {r : Addr} {rk : Nat} {ra : Nat → Addr} {Rs : Nat → List Str} {TT tl dl : Addr} {tls dls : List Value} {fz : List (Addr × Obj)}
theorem law_loop (S : Sit w A A₀ h₀ h₀ (envOfC (Str.ofString "law") lawScope L fa cd) [] L m p loose mean mg mb news s.heap 100) (hu : A.units + 70 < cLine)
   {ld le : Addr} {dits eits : Array Value} {dk ek : Nat} {dq : List Six} (X : LS w news T ps r rk ra (fun i => rowsL (ps i)) TT tl dl tls dls fz) (hal : Paired (Alike fz 2) tls dls) (h1l : tls.length = 1) (hok : ∀ h < 3, ∀ q ∈ ps h, PairOk q) (hlen : ∀ h < 3, (ps h).length ≤ 3) (hr4 : ∀ h < 3, h ≠ 0 → (rowsL (ps h)).getD 4 default = Str.ofString "") (hld : (ld, listOf dits dk) ∈ news) (hle : (le, listOf eits ek) ∈ news) (hds : Paired (SixAt fz) dits.toList dq) (hes : Paired (SixAt fz) eits.toList endsL) (hdl : dq.length = 10) (hdo : ∀ q ∈ dq, SixOk q) (hni0 : ∀ p ∈ fz, isIter p.2 = false)
   (m1 : m (Str.ofString "told") = some (.ref tl)) (m2 : m (Str.ofString "due") = some (.ref dl)) (m3 : m (Str.ofString "tables") = some (.ref TT)) (m4 : m (Str.ofString "rows") = some (.ref r)) (m5 : m (Str.ofString "given") = some (.ref (T.Lh 0))) (m6 : m (Str.ofString "deeds") = some (.ref ld)) (m7 : m (Str.ofString "ends") = some (.ref le))
   (h : ∀ h1 t1 m1 news1 ps' rk' ra' ts' ds' fz', Fr h₀ L h1 m1 → News h₀ L h1 news1 → Agree [Str.ofString "kind", Str.ofString "turn", Str.ofString "place", Str.ofString "value", Str.ofString "extra", Str.ofString "figure", Str.ofString "sign", Str.ofString "home", Str.ofString "sizes", Str.ofString "shown"] m m1 → LS w news1 T ps' r rk' ra' (fun i => rowsL (ps' i)) TT tl dl ts' ds' fz' → Paired (Alike fz' 2) ts' ds' → ts'.length = 116 → (∀ h < 3, ∀ q ∈ ps' h, PairOk q) → (∀ h < 3, (ps' h).length ≤ 26) → (∀ h < 3, h ≠ 0 → (rowsL (ps' h)).getD 4 default = Str.ofString "") → Emp (fun i => rowsL (ps' i)) 12 → wpAny (model pg w) A (execs (lawBody.drop 12) (envOfC (Str.ofString "law") lawScope L fa cd)) Q E {s with heap := h1, toks := t1}) :
   wpAny (model pg w) A (execs (lawBody.drop 11) (envOfC (Str.ofString "law") lawScope L fa cd)) Q E s := by
  revert S
  conv in List.drop 11 lawBody => whnf
  conv in (occs := *) lawScope => all_goals whnf
  try dsimp only
  intro S
  obtain ⟨KX, T', B', F, N, hA, hf, hke, hroom, hh⟩ := S
  rw [← overA_eq (l := [(Str.ofString "told", .ref tl), (Str.ofString "due", .ref dl), (Str.ofString "tables", .ref TT), (Str.ofString "rows", .ref r), (Str.ofString "given", .ref (T.Lh 0)), (Str.ofString "deeds", .ref ld), (Str.ofString "ends", .ref le)]) (M := m) (by simp only [List.forall_mem_cons]; exact ⟨m1, m2, m3, m4, m5, m6, m7, fun _ h => nomatch h⟩)] at F
  simp only [overA] at F
  have sd : dits.size = 10 := by rw [← Array.length_toList, paired_len' hds, hdl]
  have se : eits.size = 13 := by rw [← Array.length_toList, paired_len' hes]; rfl
  k_steps
  refine hold_elim ?_
  refine wpAny_execs_cons ?_
  refine wpAny_For ?_
  k_steps
  refine hold_elim ?_
  rename News _ _ _ _ => N1
  rename Fr _ _ _ _ => F1
  refine' kmk_add_lit F1 N1 ⟨_, (N1 _ hld).1, rfl, dk, rfl⟩ ⟨_, (N1 _ hle).1, rfl, ek, rfl⟩ rfl ?_ ?z
  case z => rw [sizeLine_eq, Array.length_toList, Array.length_toList, sd, se]; decide
  intro DE h' F' N' lDE
  clear F1 N1
  k_steps
  refine hold_elim ?_
  have X2 := (X.grow (n' := (DE, listOf (dits.toList ++ eits.toList).toArray 0) :: news) fun q hq => .tail _ hq).add (.head _) (X.fresh (a := DE) fun q hq => Nat.ne_of_lt (lDE q hq))
  have hall := paired_app hds hes
  have hni : ∀ p ∈ (DE, listOf (dits.toList ++ eits.toList).toArray 0) :: fz, isIter p.2 = false := fun p hp => by
    rcases List.mem_cons.mp hp with rfl | hp
    · exact isIter_list
    · exact hni0 p hp
  have hqo : ∀ q ∈ dq ++ endsL, SixOk q := fun q hq => by
    rcases List.mem_append.mp hq with hq | hq
    · exact hdo q hq
    · exact endsL_ok q hq
  refine' for_listN (n := 0) (LawJ w T r TT tl dl ((DE, listOf (dits.toList ++ eits.toList).toArray 0) :: fz) m) ?hh ?F ?N ?hJ ?hl ?j0 ?turn ?done
  case hh => exact hh
  case F => k_asm
  case N => k_asm
  case j0 => exact ⟨by walk_at "agree", ps, rk, ra, tls, dls, _, X2, Paired.imp hal fun _ _ h => Alike.mono (fun q hq => .tail _ hq) h, h1l, hok, hlen, hr4, (fun _ _ _ _ h => absurd h (Nat.not_lt_zero _)), fun _ h => h, hni⟩
  case hJ => exact LawJ.mono
  case hl => exact fun i m n h => let ⟨_, _, _, _, _, _, _, Y, _, _, _, _, _, _, hk, _⟩ := h; Y.fr _ (hk _ (.head _))
  case turn =>
    rintro i v m₁ n₁ h₂ tk₂ it hv ⟨hAg, ps, rk, ra, ts, ds, fz1, Y, hal, hln, hok, hlen, hr4, hE, hks, hni1⟩ hit him hin F1 N1
    rw [List.getElem?_toArray] at hv
    have hi : i < 23 := by
      have := (List.getElem?_eq_some_iff.mp hv).1
      rw [List.length_append, Array.length_toList, Array.length_toList, sd, se] at this
      exact this
    obtain ⟨q, hq, hs⟩ := paired_idx hall hv
    obtain ⟨⟨k1, k2⟩, ht, hp, hv8, he, h0, h33⟩ := hqo q (List.mem_of_getElem? hq)
    obtain ⟨t, k, u1, u2, u3, u4, u5, u6, rfl, hm⟩ := hs.mono fun p hp => Y.fr _ (hks _ (.tail _ hp))
    refine assign_six hh F1 N1 hm rfl rfl rfl rfl rfl rfl rfl ?_
    intro h₃ tk₃ F2 N2
    have tob := Y.to
    obtain ⟨k5, hto⟩ := Y.to
    obtain ⟨k6, hdu⟩ := Y.du
    have oit : Off r ra T tl dl it.1 := by
      refine ⟨iter_neL N1 hit him hto, iter_neL N1 hit him hdu, iter_neL N1 hit him Y.R.hr, fun j hj => ?_, fun j hj => ?_⟩
      · obtain ⟨-, a, b, hma, -⟩ := Y.R.row j hj
        exact iter_neL N1 hit him hma
      · obtain ⟨a, b, hma⟩ := Y.H.list hj
        exact iter_neL N1 hit him hma
    obtain ⟨M2, hM2⟩ : ∃ M, M = (fun y => if y = Str.ofString "figure" then some (Value.int q.fig u6) else if y = Str.ofString "extra" then some (Value.int q.extra u5) else if y = Str.ofString "value" then some (Value.int q.value u4) else if y = Str.ofString "place" then some (Value.int q.place u3) else if y = Str.ofString "turn" then some (Value.int (q.turn : Int) u2) else if y = Str.ofString "kind" then some (Value.int q.kind u1) else m₁ y) := ⟨_, rfl⟩
    replace F2 : Fr h₀ L h₃ M2 := hM2 ▸ F2
    have A2 : ∀ x, x ∉ ([Str.ofString "kind", Str.ofString "turn", Str.ofString "place", Str.ofString "value", Str.ofString "extra", Str.ofString "figure"] : List Str) → M2 x = m₁ x := fun x hx => by
      simp only [List.mem_cons, List.not_mem_nil, or_false, not_or] at hx
      obtain ⟨a1, a2, a3, a4, a5, a6⟩ := hx
      rw [hM2]
      show (if _ then _ else _) = _
      rw [if_neg a6, if_neg a5, if_neg a4, if_neg a3, if_neg a2, if_neg a1]
    refine' law_turn ?Sx hu (Y.add him oit) (Paired.imp hal fun _ _ h => Alike.mono (fun q hq => .tail _ hq) h) hok (fun j hj => ?hl) ht h0 h33 ⟨k1, k2⟩ hp hv8 he ?hts ((A2 _ (by decide)).trans ((hAg _ (by decide)).trans m1)) ((A2 _ (by decide)).trans ((hAg _ (by decide)).trans m2)) ((A2 _ (by decide)).trans ((hAg _ (by decide)).trans m3)) ((A2 _ (by decide)).trans ((hAg _ (by decide)).trans m4)) ((A2 _ (by decide)).trans ((hAg _ (by decide)).trans m5)) (by rw [hM2]; rfl) (by rw [hM2]; rfl) (by rw [hM2]; rfl) (by rw [hM2]; rfl) (by rw [hM2]; rfl) (by rw [hM2]; rfl) ?hgo
    case Sx => exact ⟨KX, T', B', F2, N2, hA, hf, hke, hroom, hh⟩
    case hl => have := hlen j hj; omega
    case hts => omega
    case hgo =>
      intro h5 t5 m5 n5 ps' rk' ra' ts' ds' fz' ans F5 N5 A5 sub5 dd gr X5 al5 hl5
      have hn5 : ∀ p ∈ fz'.filter (fun p => !isIter p.2), p ∈ fz' := fun p hp => (List.mem_filter.mp hp).1
      have hn6 : ∀ p ∈ fz', isIter p.2 = false → p ∈ fz'.filter (fun p => !isIter p.2) := fun p hp h => List.mem_filter.mpr ⟨hp, by rw [h]; rfl⟩
      refine ⟨_, _, _, _, rfl, F5, N5, X5.fr _ (sub5 _ (.head _)), ?_, ps', rk', ra', ts', ds', fz'.filter (fun p => !isIter p.2), X5.less hn5 hn6, Paired.imp al5 fun _ _ h => h.noIter hn6, by rw [hl5, hln]; omega, fun j hj => (gr j hj).1, fun j hj => ?_, fun j hj h0 => ?_, ?_, fun p hp => hn6 p (sub5 _ (.tail _ (hks p hp))) (hni p hp), fun p hp => ?_⟩
      · intro y hy
        simp only [List.mem_cons, List.not_mem_nil, or_false, not_or] at hy
        rw [A5 y (by simp only [List.mem_cons, List.not_mem_nil, or_false, not_or]; exact hy.2.2.2.2.2.2), A2 y (by simp only [List.mem_cons, List.not_mem_nil, or_false, not_or]; exact ⟨hy.1, hy.2.1, hy.2.2.1, hy.2.2.2.1, hy.2.2.2.2.1, hy.2.2.2.2.2.1⟩)]
        exact hAg y (by simp only [List.mem_cons, List.not_mem_nil, or_false, not_or]; exact hy)
      · have := (gr j hj).2
        have := hlen j hj
        omega
      · exact (dd.row4 hp h0).trans (hr4 j hj h0)
      · exact emp_next (fun _ _ => rfl) hdl hi hq hE dd
      · have := (List.mem_filter.mp hp).2
        simpa using this
  case done =>
    rintro m₁ n₁ h₂ tk₂ ⟨hAg, ps, rk, ra, ts, ds, fz1, Y, hal, hln, hok, hlen, hr4, hE, hks, hni1⟩ F1 N1
    have e23 : (dits.toList ++ eits.toList).toArray.size = 23 := by rw [List.size_toArray, List.length_append, Array.length_toList, Array.length_toList, sd, se]
    rw [e23] at hln hlen hE
    exact h _ _ _ _ ps rk ra ts ds fz1 F1 N1 hAg Y hal hln hok hlen hr4 hE
end
end
theorem offH71 : True := trivial
end
section
theorem kw127 : True := by
  w_top off
  trivial
section
variable {w : World} {A A₀ : Around} {E : Value → Shared → Prop} {s : Shared} {h₀ : Heap} {L fa : Addr} {cd : Value} {m mg mb : Str → Option Value} {news : List (Addr × Obj)}
   {p : Program} {loose : List Str} {mean : ExcName → Option Value} {Q : Flow → Shared → Prop} {kind place value extra fg : Int} {sg : Str} {tk tt tp tv te tf ts th : Tok} {turn home : Nat}
   {T : Tb} {ps : Nat → List (Str × Value)} {r : Addr} {rk : Nat} {ra : Nat → Addr} {Rs : Nat → List Str} {TT tl dl : Addr} {tls dls : List Value} {fz : List (Addr × Obj)}
   {lc : Addr} {cits : Array Value} {cn : Nat} {cs : List Int}
theorem law_mid (S : Sit w A A₀ h₀ h₀ (envOfC (Str.ofString "law") lawScope L fa cd) [] L m p loose mean mg mb news s.heap 100) (hu : A.units + 70 < cLine)
   (hlc : (lc, listOf cits cn) ∈ news) (hci : IntsAre cits.toList cs) (hcl : cs.length = 10)
   (m1 : m (Str.ofString "cells") = some (.ref lc))
   (hQ : ∀ h' t' m' n', Fr h₀ L h' m' → News h₀ L h' n' → Q (.ret (.bool true)) {s with heap := h', toks := t'}) :
   wpAny (model pg w) A (execs (lawBody.drop 3) (envOfC (Str.ofString "law") lawScope L fa cd)) Q E s := by
  obtain ⟨KX, T', B', F, N, hA, hf, hke, hroom, hh⟩ := S
  refine law_a ⟨KX, T', B', F, N, hA, hf, hke, hroom, hh⟩ hu hlc hci hcl m1 ?_
  intro h1 t1 M1 n1 lg gits tc c g0 g1 g2 hc4 F1 N1 s1 A1 mc mg1 hlg P
  refine law_b ⟨KX, T', B', F1, N1, hA, hf, hke, hroom, hh⟩ hu hlg P (by rw [givenL_len hc4]; omega) givenL_big givenL_good mg1 ?_
  intro h2 t2 M2 n2 TT T F2 N2 s2 A2 mT hT eL TTne D H
  subst eL
  refine @law_c _ _ _ _ _ _ _ _ _ _ _ _ _ _ _ _ _ ⟨KX, T', B', F2, N2, hA, hf, hke, hroom, hh⟩ hu _ _ hc4 ((A2 _ (by decide)).trans mc) ?_
  intro h3 t3 M3 n3 r ra F3 N3 s3 A3 mr R fr3
  rw [rows_start (g0 := g0) (g1 := g1) (g2 := g2) hc4] at R
  refine @law_d _ _ _ _ _ _ _ _ _ _ _ _ _ _ _ _ _ _ _ _ ⟨KX, T', B', F3, N3, hA, hf, hke, hroom, hh⟩ hu _ _ _ (s3 _ hT) (H.mono s3) (by show ((givenL g0 g1 g2).take c).length = c; exact givenL_len hc4) rfl rfl ((A3 _ (by decide)).trans mT) ((A3 _ (by decide)).trans ((A2 _ (by decide)).trans mc)) ?_
  intro h4 t4 M4 n4 tl dl a b ai bi ka kb zs F4 N4 s4 A4 mt md ht hd ha hb ia ib fr4 td a1 a2 b1 b2
  have s14 : ∀ q ∈ news, q ∈ n4 := fun q hq => s4 _ (s3 _ (s2 _ (s1 q hq)))
  refine @law_e _ _ _ _ _ _ _ _ _ _ _ _ _ _ _ _ _ _ _ _ _ ⟨KX, T', B', F4, N4, hA, hf, hke, hroom, hh⟩ hu (s14 _ hlc) hci hcl ((A4 _ (by decide)).trans ((A3 _ (by decide)).trans ((A2 _ (by decide)).trans ((A1 _ (by decide)).trans m1)))) ?_
  intro h5 t5 M5 n5 ld dits dk dq tz5 F5 N5 s5 A5 mld hld P5 hd10 hdo z5 c5
  refine @law_f _ _ _ _ _ _ _ _ _ _ _ _ _ _ _ _ _ ⟨KX, T', B', F5, N5, hA, hf, hke, hroom, hh⟩ hu _ mld ?_
  intro h6 t6 M6 n6 le eits ek tz6 F6 N6 s6 A6 mle hle P6 z6 c6
  have X := LS.make (n2 := n2) (n3 := n3) (n := n6) (tz := tz5 ++ tz6) N6 H D TTne hT R s3 fr3 (fun q hq => s6 _ (s5 _ (s4 _ hq))) (s6 _ (s5 _ ht)) (s6 _ (s5 _ hd)) (s6 _ (s5 _ ha)) (s6 _ (s5 _ hb)) fr4 td a1 a2 b1 b2
    (fun p hp => (List.mem_append.mp hp).elim (fun h => s6 _ (z5 p h)) (z6 p)) (fun p hp => (List.mem_append.mp hp).elim (c5 p) (c6 p))
  have A56 := A5.more A6
  refine @law_loop _ _ _ _ _ _ _ _ _ _ _ _ _ _ _ _ _ _ _ _ _ _ _ _ _ _ _ _ ⟨KX, T', B', F6, N6, hA, hf, hke, hroom, hh⟩ hu _ _ _ _ _ _ _ X (.cons (Alike.list (.tail _ (.head _)) (.tail _ (.tail _ (.head _))) (alike_ints ia ib)) .nil) rfl ?_ ?_ ?_ (s6 _ hld) hle (Paired.imp P5 fun _ _ h => h.mono fun q hq => .tail _ (.tail _ (.tail _ (List.mem_append_left _ hq)))) (Paired.imp P6 fun _ _ h => h.mono fun q hq => .tail _ (.tail _ (.tail _ (List.mem_append_right _ hq)))) hd10 hdo ?_
    ((A56 _ (by decide)).trans mt) ((A56 _ (by decide)).trans md) ((A56 _ (by decide)).trans ((A4 _ (by decide)).trans ((A3 _ (by decide)).trans mT))) ((A56 _ (by decide)).trans ((A4 _ (by decide)).trans mr)) ((A56 _ (by decide)).trans ((A4 _ (by decide)).trans ((A3 _ (by decide)).trans ((A2 _ (by decide)).trans mg1)))) ((A6 _ (by decide)).trans mld) mle ?_
  · intro i hi q hq
    by_cases e : i = 0
    · subst e
      exact givenL_ok q hq
    · rw [if_neg e] at hq
      exact nomatch hq
  · intro i hi
    by_cases e : i = 0
    · subst e
      show ((givenL g0 g1 g2).take c).length ≤ 3
      rw [givenL_len hc4]
      omega
    · rw [if_neg e]
      exact Nat.zero_le _
  · intro i hi e
    rw [if_neg e]
    rfl
  · intro p hp
    rcases List.mem_cons.mp hp with rfl | hp
    · exact isIter_list
    · rcases List.mem_cons.mp hp with rfl | hp
      · exact isIter_list
      · rcases List.mem_cons.mp hp with rfl | hp
        · exact isIter_list
        · exact (List.mem_append.mp hp).elim (fun h => (c5 p h).2) (fun h => (c6 p h).2)
  · intro h7 t7 M7 n7 ps' rk' ra' ts' ds' fz' F7 N7 A7 X7 al7 l7 ok7 len7 r47 E7
    refine @law_end _ _ _ _ _ _ _ _ _ _ _ _ _ _ _ _ _ _ _ _ _ _ _ _ _ _ _ _ ⟨KX, T', B', F7, N7, hA, hf, hke, hroom, hh⟩ hu X7 al7 l7 len7 r47 E7 ((A7 _ (by decide)).trans ((A56 _ (by decide)).trans mt)) ((A7 _ (by decide)).trans ((A56 _ (by decide)).trans md)) ((A7 _ (by decide)).trans ((A56 _ (by decide)).trans ((A4 _ (by decide)).trans ((A3 _ (by decide)).trans mT)))) ((A7 _ (by decide)).trans ((A56 _ (by decide)).trans ((A4 _ (by decide)).trans mr))) ((A7 _ (by decide)).trans ((A56 _ (by decide)).trans ((A4 _ (by decide)).trans ((A3 _ (by decide)).trans ((A2 _ (by decide)).trans mg1))))) ?_
    exact fun h' t' m' n' F' N' => hQ h' t' m' n' F' N'
end
end
end
end
end
section
theorem kw129 : True := by
  w_top off
  k_with_none
  trivial
/-- the program as it is seen behind its top: without the second __name__, _formatparam's and the first __name__'s statements; told by the program itself, lest its twin be built anew -/
def view2 : Program := { PySem.Challenge.pw_un0065_01 with main := { PySem.Challenge.pw_un0065_01.main with body := PySem.Challenge.pw_un0065_01.main.body.take 2 ++ ((PySem.Challenge.pw_un0065_01.main.body.drop 3).take 3 ++ ((PySem.Challenge.pw_un0065_01.main.body.drop 7).take 1 ++ PySem.Challenge.pw_un0065_01.main.body.drop 9)) } }
theorem view_eq : hd.view_39 = view2 := by kernel_rfl
def looseL : List Str := [Str.ofString "tspecials", Str.ofString "_name_disallowed_re", Str.ofString "_value_disallowed_re", Str.ofString "_formatparam"]
theorem view_names : namesOk hd.view_39 (looseW hd.view_39 looseL) (namesW hd.view_39 looseL) = true := by
  rw [view_eq]
  k_qdec
theorem view_imports : importsNone hd.view_39 = true := by
  rw [view_eq]
  k_qdec
section
local macro_rules | `(tactic| k_qdec) => `(tactic| first | exact view_names | exact view_imports)
theorem kw128 : True := by
  k_with "exec Assign cons ListComp" => (fail_if_success have := @offN21); refine hold_intro ?_
  k_with "execs cons" => (fail_if_success have := @offN21); ((with_reducible show wpAny _ _ (execs (Stmt.Assign [Expr.Name (Str.ofString "count") _] _ _ :: _) _) _ _ _); refine hold_intro ?_)
  trivial
theorem holds1 : PySem.Challenge.rw_un0065_01.Holds := hd (by
  k_go0
  k_steps
  refine hold_elim ?_
  refine' Assign_cells (N := 10) ?hL ?hh ?F ?N ?hmd ?hst ?hO ?dO ?hN ?dN ?hLO ?hLN ?hi ?hm ?hbz ?hnl ?hfit ?gg ?gm ?gb ?gs ?hsw ?hclos ?hcell ?hkind ?hnames ?hx ?hy ?hp ?hk ?hj ?h1 ?h2 ?h3 ?l1 ?l2 ?hk2 ?hfree ?hcell2 ?hnames2 ?hx2 ?hk3 ?hx3 ?hs ?hiter ?hQ
  case hclos => with_unfolding_all rfl
  case l1 => rfl
  case l2 => rfl
  case hh => rfl
  case F => k_asm
  case N => k_asm
  case hL => rfl
  case hmd => decide
  case hst => decide
  case hO => k_mem
  case dO => assumption
  case hN => k_mem
  case dN => assumption
  case hLO => k_mem
  case hLN => k_mem
  case hi => exact .cons _ _ (.cons _ _ (.cons _ _ (.cons _ _ (.cons _ _ (.cons _ _ (.cons _ _ (.cons _ _ (.cons _ _ (.cons _ _ .nil)))))))))
  case hm => assumption
  case hbz =>
    rw [List.size_toArray, IntsAre.length (by assumption : IntsAre _ (List.take 60 _)), List.length_take]
    exact Nat.le_trans (Nat.min_le_left _ _) (by decide)
  case hnl => rfl
  case hfit => decide
  case gg => exact (topRead_of (by assumption)).g
  case gm => exact mg_none_of (by assumption) (topRead_of (by assumption)).g (by k_is)
  case gb => exact (topRead_of (by assumption)).b
  case gs => exact ((topRead_of (by assumption)).builtins _ (by decide)).trans rfl
  case hsw => with_unfolding_all rfl
  case hcell => decide
  case hkind => rfl
  case hnames => decide
  case hx => rfl
  case hy => rfl
  case hp => rfl
  case hk => exact fun _ => rfl
  case hj => exact fun _ => rfl
  case h1 => exact fun _ => rfl
  case h2 => exact fun _ => rfl
  case h3 => exact fun _ => rfl
  case hk2 => rfl
  case hfree => decide
  case hcell2 => decide
  case hnames2 => decide
  case hx2 => rfl
  case hk3 => exact fun _ _ => rfl
  case hx3 => exact fun _ _ => rfl
  case hs => intro _; with_unfolding_all rfl
  case hiter =>
    intro Q' hQ'
    k_steps
    rename IsRange _ _ _ _ _ _ _ _ => hr
    exact hQ' _ _ _ _ _ _ (by assumption) (by assumption) hr
  case hQ =>
    intro D h' tk ys k zs F' N' I1 z11 fr
    simp only [List.mem_cons, forall_eq_or_imp, List.not_mem_nil, false_implies, implies_true, and_true] at fr
    k_steps
    refine hold_elim ?_
    refine' law_mid ?S9 ?hu9 ?hlc9 I1 z11 ?m19 ?hQ9
    case S9 => exact ⟨by k_asm, by k_asm, by assumption, by k_asm, by k_asm, Around.frames_deeper (Below.stack (by assumption)), rfl, rfl, by ((try simp only [depth_deeper, depth_caller]); decide), rfl⟩
    case hu9 => units_room
    case m19 => rfl
    case hlc9 => exact .head _
    case hQ9 =>
      intro h' t' m' n' F' N'
      k_steps)
end
theorem offN21 : True := trivial
end
end
end Mine
theorem PySem.Challenge.cw_un0065_01_holds : PySem.Challenge.rw_un0065_01.Holds :=
  Mine.holds1
