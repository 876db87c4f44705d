import PyProof.Rows.All
import Wide.All
import OpenK.AllK
import Wide.FinOn
import PySem.Challenge.RW_mj0040_01
set_option Elab.async false
section
open PySem PySem.W PyProof.Rows
namespace Mine
set_option maxRecDepth 100000
set_option maxHeartbeats 8000000
open_top hd for PySem.Challenge.rw_mj0040_01
end Mine
end
section
open PySem PySem.W PyProof.Rows
set_option maxRecDepth 100000
namespace Mine
open PySem.Sre

/-- a code whose first set and whose only item is one set of signs U -/
structure OneSet (code : Array Nat) (b : Nat) (U : Nat → Bool) : Prop where
  h0 : ops[code.getD 0 0]? = some .INFO
  h1 : 1 + code.getD 1 0 = b
  h2 : code.getD 2 0 = 4
  h3 : code.getD 3 0 = 1
  hb : ops[code.getD b 0]? = some .IN
  hbs : b < code.size
  hb0 : b ≠ 0
  he : ops[code.getD (b + (1 + code.getD (b + 1) 0)) 0]? = some .SUCCESS
  hes : b + (1 + code.getD (b + 1) 0) < code.size
  set1 : ∀ c seen, ∃ seen', inSet code c code.size 5 true seen = .ok (U c, seen')
  set2 : ∀ c seen, ∃ seen', inSet code c code.size (b + 2) true seen = .ok (U c, seen')

theorem admitted_no {m : M} {b : Nat} {U : Nat → Bool} (O : OneSet m.code b U) (hU : ∀ i, i < m.lim → U (m.text.getD i 0) = false) :
    ∀ (fuel s : Nat) (seen : Sre.Seen), ∃ seen', M.admitted m fuel s seen = .ok (none, seen')
  | 0, _, seen => ⟨seen, rfl⟩
  | fuel + 1, s, seen => by
    unfold M.admitted
    by_cases h : s ≥ m.lim
    · exact ⟨seen, by rw [if_pos h]⟩
    · rw [if_neg h]
      obtain ⟨seen', e⟩ := O.set1 (m.text.getD s 0) seen
      rw [hU s (Nat.lt_of_not_ge h)] at e
      rw [e]
      exact admitted_no O hU fuel (s + 1) seen'

theorem admitted_yes {m : M} {b : Nat} {U : Nat → Bool} (O : OneSet m.code b U) {k : Nat} (hk : k < m.lim) (hU : U (m.text.getD k 0) = true) :
    ∀ (fuel s : Nat) (seen : Sre.Seen), s ≤ k → m.lim < fuel + s → ∃ j seen', M.admitted m fuel s seen = .ok (some j, seen') ∧ j < m.lim ∧ U (m.text.getD j 0) = true
  | 0, s, seen, hs, hf => by omega
  | fuel + 1, s, seen, hs, hf => by
    unfold M.admitted
    rw [if_neg (by omega)]
    obtain ⟨seen', e⟩ := O.set1 (m.text.getD s 0) seen
    rw [e]
    cases hu : U (m.text.getD s 0) with
    | true => exact ⟨s, seen', rfl, by omega, hu⟩
    | false =>
      have hne : s ≠ k := fun h => by rw [h, hU] at hu; cases hu
      exact admitted_yes O hk hU fuel (s + 1) seen' (by omega) (by omega)

/-- the machine at its start -/
def m0 (code text : Array Nat) (b lim ls : Nat) (seen : Sre.Seen) : M := { code, text, lim, start := 0, lastStart := ls, pc := b, pos := 0, handed := 0, marks := Array.replicate (2 * 0) none, seen }

theorem search_no {code text : Array Nat} {b : Nat} {U : Nat → Bool} (O : OneSet code b U) {lim ls : Nat} {seen : Sre.Seen} (hU : ∀ i, i < lim → U (text.getD i 0) = false) :
    ∃ m', ((m0 code text b lim ls seen).attemptFrom 0 true).runFor 4 = m' ∧ m'.outcome = some .failed := by
  refine ⟨_, rfl, ?_⟩
  have hf : (m0 code text b lim ls seen).hasFirstSet = true := by
    unfold M.hasFirstSet m0
    dsimp only
    rw [O.h0, O.h2]
    rfl
  unfold M.attemptFrom
  rw [hf]
  obtain ⟨seen', e⟩ := admitted_no (m := m0 code text b lim ls seen) O hU ((m0 code text b lim ls seen).lim + 1 - 0) 0 (m0 code text b lim ls seen).seen
  rw [e]
  simp [M.runFor, M.step, M.say, m0]

theorem search_yes {code text : Array Nat} {b : Nat} {U : Nat → Bool} (O : OneSet code b U) {lim ls : Nat} {seen : Sre.Seen} {k : Nat} (hk : k < lim) (hU : U (text.getD k 0) = true) :
    ∃ m', ((m0 code text b lim ls seen).attemptFrom 0 true).runFor 4 = m' ∧ m'.outcome = some .matched := by
  refine ⟨_, rfl, ?_⟩
  have hf : (m0 code text b lim ls seen).hasFirstSet = true := by
    unfold M.hasFirstSet m0
    dsimp only
    rw [O.h0, O.h2]
    rfl
  unfold M.attemptFrom
  rw [hf]
  obtain ⟨j, seen', e, hj, hUj⟩ := admitted_yes (m := m0 code text b lim ls seen) O (k := k) hk hU ((m0 code text b lim ls seen).lim + 1 - 0) 0 (m0 code text b lim ls seen).seen (Nat.zero_le _) (by simp)
  rw [e]
  have hj' : ¬ (j ≥ lim) := by simpa [m0] using hj
  obtain ⟨seen₂, e₂⟩ := O.set2 (text.getD j 0) (seen'.add (code.getD b 0))
  have hUj' : U (text.getD j 0) = true := hUj
  rw [hUj'] at e₂
  have acc : accepts code b (text.getD j 0) (seen'.add (code.getD b 0)) = .ok (true, seen₂) := by
    unfold accepts
    dsimp only
    rw [O.hb]
    exact e₂
  have wid : itemWidth code b = 1 + code.getD (b + 1) 0 := by
    unfold itemWidth
    rw [O.hb]
  show ((M.attemptAt { m0 code text b lim ls seen with mustAdvance := false, seen := seen' } j true).runFor 4).outcome = _
  have e1 : (M.attemptAt { m0 code text b lim ls seen with mustAdvance := false, seen := seen' } j true) =
    { m0 code text b lim ls seen with start := j, pos := j, handed := j, outermost := true, frames := [{ wait := .nextStart, pc := b, pos := j, outermost := true }], weight := 1, seen := seen' } := by
    unfold M.attemptAt M.attempt
    rw [if_neg (by simp [m0])]
    simp [m0]
  rw [e1]
  have s1 : M.step { m0 code text b lim ls seen with start := j, pos := j, handed := j, outermost := true, frames := [{ wait := .nextStart, pc := b, pos := j, outermost := true }], weight := 1, seen := seen' } =
    { m0 code text b lim ls seen with start := j, pos := j + 1, handed := j, outermost := true, frames := [{ wait := .nextStart, pc := b, pos := j, outermost := true }], weight := 1, seen := seen₂, pc := b + (1 + code.getD (b + 1) 0) } := by
    unfold M.step
    rw [if_neg (by simp [m0])]
    show (if b < code.size then M.exec _ else _) = _
    rw [if_pos O.hbs]
    unfold M.exec
    simp only [M.word, m0, Nat.add_zero, O.hb]
    refine (if_neg hj').trans ?_
    rw [acc]
    simp only [wid]
  have s2 : M.step { m0 code text b lim ls seen with start := j, pos := j + 1, handed := j, outermost := true, frames := [{ wait := .nextStart, pc := b, pos := j, outermost := true }], weight := 1, seen := seen₂, pc := b + (1 + code.getD (b + 1) 0) } =
    { m0 code text b lim ls seen with start := j, pos := j + 1, handed := j + 1, outermost := true, frames := [{ wait := .nextStart, pc := b, pos := j, outermost := true }], weight := 1, seen := seen₂.add (code.getD (b + (1 + code.getD (b + 1) 0)) 0), pc := b + (1 + code.getD (b + 1) 0), answer := some true } := by
    unfold M.step
    rw [if_neg (by simp [m0])]
    show (if b + (1 + code.getD (b + 1) 0) < code.size then M.exec _ else _) = _
    rw [if_pos O.hes]
    unfold M.exec
    simp only [M.word, m0, Nat.add_zero, O.he]
    simp [M.say]
  simp only [M.runFor, s1, s2]
  simp [M.step, M.resume, M.say, m0]
end Mine
end
section
open PySem PySem.W PyProof.Rows
set_option maxRecDepth 100000
namespace Mine
open PySem.Sre PySem.Builtin.Re

def ctlCode : Array Nat := #[14, 14, 4, 1, 1, 9, 4294957567, 0, 0, 0, 0, 0, 0, 0, 0, 13, 11, 9, 4294957567, 0, 0, 0, 0, 0, 0, 0, 0, 1]
def unsCode : Array Nat := #[14, 17, 4, 1, 1, 21, 9, 0, 604043296, 1, 0, 0, 0, 0, 0, 8, 4, 0, 13, 14, 21, 9, 0, 604043296, 1, 0, 0, 0, 0, 0, 8, 4, 0, 1]
def ctlU (c : Nat) : Bool := decide (c < 256) && (ctlCode.getD (6 + c / 32) 0).testBit (c % 32)
def unsU (c : Nat) : Bool := !((decide (c < 256) && (unsCode.getD (7 + c / 32) 0).testBit (c % 32)) || isWord c)

theorem ctl_18 (c : Nat) (h : c < 256) : ctlCode.getD (17 + (1 + c / 32)) 0 = ctlCode.getD (6 + c / 32) 0 := by
  have : c / 32 < 8 := by omega
  match c / 32, this with
  | 0, _ | 1, _ | 2, _ | 3, _ | 4, _ | 5, _ | 6, _ | 7, _ => rfl
theorem uns_21 (c : Nat) (h : c < 256) : unsCode.getD (21 + (1 + c / 32)) 0 = unsCode.getD (7 + c / 32) 0 := by
  have : c / 32 < 8 := by omega
  match c / 32, this with
  | 0, _ | 1, _ | 2, _ | 3, _ | 4, _ | 5, _ | 6, _ | 7, _ => rfl

theorem ctl_set (c i : Nat) (seen : Sre.Seen) (fuel : Nat) (hi : ops[ctlCode.getD i 0]? = some .CHARSET) (hf : ops[ctlCode.getD (i + 9) 0]? = some .FAILURE)
    (hw : c < 256 → ctlCode.getD (i + (1 + c / 32)) 0 = ctlCode.getD (6 + c / 32) 0) : ∃ seen', inSet ctlCode c (fuel + 2) i true seen = .ok (ctlU c, seen') := by
  have hu : (decide (c < 256) && (ctlCode.getD (i + (1 + c / 32)) 0).testBit (c % 32)) = ctlU c := by
    unfold ctlU
    by_cases h : c < 256
    · rw [hw h]
    · simp [h]
  unfold inSet
  simp only [Nat.add_zero, hi, hu]
  cases ctlU c with
  | true => exact ⟨_, rfl⟩
  | false =>
    simp only [Bool.false_eq_true, if_false]
    unfold inSet
    simp only [Nat.add_zero, hf]
    exact ⟨_, rfl⟩

theorem cat4 (c : Nat) : category 4 c = .ok (isWord c) := by
  unfold category
  simp [Except.map]

theorem uns_set (c i : Nat) (seen : Sre.Seen) (fuel : Nat) (hn : ops[unsCode.getD i 0]? = some .NEGATE) (hi : ops[unsCode.getD (i + 1) 0]? = some .CHARSET) (hk : ops[unsCode.getD (i + 1 + 9) 0]? = some .CATEGORY) (h4 : unsCode.getD (i + 1 + 9 + 1) 0 = 4)
    (hf : ops[unsCode.getD (i + 1 + 9 + 2) 0]? = some .FAILURE)
    (hw : c < 256 → unsCode.getD (i + 1 + (1 + c / 32)) 0 = unsCode.getD (7 + c / 32) 0) : ∃ seen', inSet unsCode c (fuel + 4) i true seen = .ok (unsU c, seen') := by
  have hu : (decide (c < 256) && (unsCode.getD (i + 1 + (1 + c / 32)) 0).testBit (c % 32)) = (decide (c < 256) && (unsCode.getD (7 + c / 32) 0).testBit (c % 32)) := by
    by_cases h : c < 256
    · rw [hw h]
    · simp [h]
  unfold inSet
  simp only [Nat.add_zero, hn]
  unfold inSet
  simp only [Nat.add_zero, hi, hu]
  unfold unsU
  cases hc : (decide (c < 256) && (unsCode.getD (7 + c / 32) 0).testBit (c % 32)) with
  | true => exact ⟨_, rfl⟩
  | false =>
    simp only [Bool.false_eq_true, if_false, Bool.false_or]
    unfold inSet
    simp only [Nat.add_zero, hk, h4, cat4]
    cases isWord c with
    | true => exact ⟨_, rfl⟩
    | false =>
      show ∃ seen', inSet _ _ _ _ _ _ = _
      unfold inSet
      simp only [Nat.add_zero, hf]
      exact ⟨_, rfl⟩

theorem ctl_one : OneSet ctlCode 15 ctlU where
  h0 := rfl
  h1 := rfl
  h2 := rfl
  h3 := rfl
  hb := rfl
  hbs := by decide
  hb0 := by decide
  he := rfl
  hes := by decide
  set1 := fun c seen => ctl_set c 5 seen 26 rfl rfl fun _ => by rw [← Nat.add_assoc]
  set2 := fun c seen => ctl_set c 17 seen 26 rfl rfl fun h => ctl_18 c h
theorem uns_one : OneSet unsCode 18 unsU where
  h0 := rfl
  h1 := rfl
  h2 := rfl
  h3 := rfl
  hb := rfl
  hbs := by decide
  hb0 := by decide
  he := rfl
  hes := by decide
  set1 := fun c seen => uns_set c 5 seen 30 rfl rfl rfl rfl rfl fun _ => by rw [← Nat.add_assoc]
  set2 := fun c seen => uns_set c 20 seen 30 rfl rfl rfl rfl rfl fun h => uns_21 c h

theorem forSearch_ctl (text : Array Nat) (hz : 1 ≤ text.size) : Sre.forSearch ctlCode text 0 0 text.size false = (m0 ctlCode text 15 text.size text.size (({} : Sre.Seen).add 14)).attemptFrom 0 true := by
  unfold Sre.forSearch
  exact (if_neg (by show ¬ ((decide (0 > text.size) || decide (text.size - 0 < 1)) = true); simp only [Bool.or_eq_true, decide_eq_true_eq]; omega)).trans rfl
theorem forSearch_uns (text : Array Nat) (hz : 1 ≤ text.size) : Sre.forSearch unsCode text 0 0 text.size false = (m0 unsCode text 18 text.size text.size (({} : Sre.Seen).add 14)).attemptFrom 0 true := by
  unfold Sre.forSearch
  exact (if_neg (by show ¬ ((decide (0 > text.size) || decide (text.size - 0 < 1)) = true); simp only [Bool.or_eq_true, decide_eq_true_eq]; omega)).trans rfl
theorem forSearch_ctl0 (text : Array Nat) (hz : text.size = 0) : ((Sre.forSearch ctlCode text 0 0 text.size false).runFor 4).outcome = some .failed := by
  unfold Sre.forSearch
  rw [if_pos (by show ((decide (0 > text.size) || decide (text.size - 0 < 1)) = true); simp only [Bool.or_eq_true, decide_eq_true_eq]; omega)]
  rfl

/-- no sign of U: nothing is found -/
theorem ctl_none {text : Array Nat} (h : ∀ i, i < text.size → ctlU (text.getD i 0) = false) : ((Sre.forSearch ctlCode text 0 0 text.size false).runFor 4).outcome = some .failed := by
  by_cases hz : text.size = 0
  · exact forSearch_ctl0 text hz
  · rw [forSearch_ctl text (by omega)]
    obtain ⟨m', e, h'⟩ := search_no (text := text) (lim := text.size) (ls := text.size) (seen := ({} : Sre.Seen).add 14) ctl_one h
    rw [e]; exact h'
theorem uns_none {text : Array Nat} (hz : 1 ≤ text.size) (h : ∀ i, i < text.size → unsU (text.getD i 0) = false) : ((Sre.forSearch unsCode text 0 0 text.size false).runFor 4).outcome = some .failed := by
  rw [forSearch_uns text hz]
  obtain ⟨m', e, h'⟩ := search_no (text := text) (lim := text.size) (ls := text.size) (seen := ({} : Sre.Seen).add 14) uns_one h
  rw [e]; exact h'
theorem uns_some {text : Array Nat} {k : Nat} (hk : k < text.size) (h : unsU (text.getD k 0) = true) : ((Sre.forSearch unsCode text 0 0 text.size false).runFor 4).outcome = some .matched := by
  rw [forSearch_uns text (by omega)]
  obtain ⟨m', e, h'⟩ := search_yes (text := text) (lim := text.size) (ls := text.size) (seen := ({} : Sre.Seen).add 14) uns_one hk h
  rw [e]; exact h'

section
variable {prog : Program} {w : World} {M : Model} {A : Around} {E : Value → Shared → Prop} {s : Shared}
theorem drive {m : Sre.M} {Q : Sre.M → Shared → Prop} (ho : (m.runFor 4).outcome.isSome = true) (h : Q (m.runFor 4) s) : wpAny M A (reDrive (2 ^ 64) m) Q E s := by
  have e : (2 ^ 64 : Nat) = 18446744073709551615 + 1 := by decide
  rw [e]
  unfold reDrive
  show wpAny M A (if (m.runFor 4).outcome.isSome = true then pure (m.runFor 4) else _) Q E s
  rw [if_pos ho]
  exact wpAny_pure h
theorem rules_only {m : Sre.M} {Q : PUnit → Shared → Prop} : ∀ (l : List Nat), Q ⟨⟩ s → wpAny M A (forIn l PUnit.unit fun i _ => (if m.seen.has i then (do rule (Sre.names.getD i ""); pure (ForInStep.yield PUnit.unit)) else pure (ForInStep.yield PUnit.unit))) Q E s
  | [], h => wpAny_pure h
  | i :: r, h => by
    rw [List.forIn_cons]
    refine wpAny_bind ?_
    by_cases hb : m.seen.has i = true
    · rw [if_pos hb]
      exact wpAny_bind (wpAny_rule (wpAny_pure (rules_only r h)))
    · rw [if_neg hb]
      exact wpAny_pure (rules_only r h)
theorem toEnd {m : Sre.M} {Q : Option Sre.M → Shared → Prop} (ho : (m.runFor 4).outcome = some .failed ∨ (m.runFor 4).outcome = some .matched)
    (h0 : (m.runFor 4).outcome = some .failed → Q none s) (h1 : (m.runFor 4).outcome = some .matched → Q (some (m.runFor 4)) s) : wpAny M A (reRunToEnd m) Q E s := by
  unfold reRunToEnd
  refine wpAny_bind (drive (by rcases ho with h | h <;> rw [h] <;> rfl) ?_)
  refine wpAny_bind ?_
  refine wpAny_mono (rules_only (Q := fun _ s' => s' = s) _ rfl) (fun _ s' e => ?_) fun _ _ x => x
  subst e
  rcases ho with h | h
  · rw [h]; exact wpAny_pure (h0 h)
  · rw [h]; exact wpAny_pure (h1 h)
end
end Mine
end
section
open PySem PySem.W PyProof.Rows
set_option maxRecDepth 100000
namespace Mine
open PySem.Sre PySem.Builtin.Re

/-- the heap holds a pattern with that code -/
def PatAt (h : Heap) (p q : Addr) (code : Array Nat) : Prop :=
  ∃ o o' f0 f1 its n, h.get? p = some o ∧ o.data = .fields #[f0, f1, .int 0 0, .none, .none, .ref q, .int 0 0] ∧ h.get? q = some o' ∧ o'.data = .seq its n ∧ (its.map reRawOf).map (·.toNat) = code

section
variable {prog : Program} {w : World} {M : Model} {A : Around} {E : Value → Shared → Prop} {s : Shared}
theorem search_tree {p q : Addr} {code : Array Nat} {v : Str} {t : Tok} {P : Fin → Shared → Prop} (hp : PatAt s.heap p q code) (hv : v.length ≤ 16777216)
    (ho : ((Sre.forSearch code v.cps 0 0 v.cps.size false).runFor 4).outcome = some .failed ∨ ((Sre.forSearch code v.cps 0 0 v.cps.size false).runFor 4).outcome = some .matched)
    (h0 : ((Sre.forSearch code v.cps 0 0 v.cps.size false).runFor 4).outcome = some .failed → P (.done (.ret .none)) s)
    (h1 : ((Sre.forSearch code v.cps 0 0 v.cps.size false).runFor 4).outcome = some .matched → ∀ o₁ o₂, P (.done (.ret (.ref (s.heap.push o₁).objs.size))) { s with heap := (s.heap.push o₁).push o₂ }) :
    wpAny M A (Builtin.«re.Pattern.search» ⟨[.ref p, .str v t], []⟩) P E s := by
  obtain ⟨o, o', f0, f1, its, n, hp, hd, hq, hd', hc⟩ := hp
  unfold Builtin.«re.Pattern.search»
  refine wpAny_bind ?_
  unfold reTarget
  dsimp only
  refine wpAny_bind (wpAny_of_eq (a := [some (.str v t), none, none]) (by kernel_rfl) ?_)
  dsimp only
  refine wpAny_bind (wpAny_pure (wpAny_bind (wpAny_pure ?_)))
  refine wpAny_bind (wpAny_fieldsOf hp hd ?_)
  refine wpAny_bind (wpAny_of_eq (a := (v.cps, 0)) rfl ?_)
  dsimp only
  have hcl : min (Int.toNat (2 ^ 63 - 1)) v.cps.size = v.cps.size := by
    have : v.cps.size ≤ 16777216 := hv
    have h2 : Int.toNat (2 ^ 63 - 1) = 9223372036854775807 := by decide
    rw [h2]; omega
  have hcl0 : min (Int.toNat 0) v.cps.size = 0 := by
    have h2 : Int.toNat 0 = 0 := by decide
    rw [h2]; omega
  refine wpAny_bind (wpAny_pure (wpAny_bind ?_))
  show wpAny M A (reRawItems (.ref q)) _ _ s
  unfold reRawItems
  refine wpAny_bind (wpAny_seqItems hq hd' (wpAny_pure (wpAny_pure ?_)))
  show wpAny M A (reAnswer ⟨_, _, (its.map reRawOf).map (·.toNat), v.cps, 0, 0, min (Int.toNat 0) v.cps.size, min (Int.toNat (2 ^ 63 - 1)) v.cps.size⟩ (Sre.forSearch ((its.map reRawOf).map (·.toNat)) v.cps 0 (min (Int.toNat 0) v.cps.size) (min (Int.toNat (2 ^ 63 - 1)) v.cps.size) false)) _ _ s
  rw [hc, hcl, hcl0]
  unfold reAnswer
  refine wpAny_bind (toEnd ho (fun hn => wpAny_pure (h0 hn)) fun hy => ?_)
  dsimp only
  refine wpAny_bind ?_
  unfold reNewMatch
  dsimp only
  refine wpAny_bind (wpAny_newTuple ?_ ?_)
  · refine wpAny_newObj_type ?_ ?_
    · exact wpAny_pure (h1 hy _ _)
    · first | size_fits | decide
  · exact Nat.le_of_ble_eq_true rfl

theorem slot_search : Slot "re.Pattern" "search" "re.Pattern.search" :=
  .of (owner := "re.Pattern") (n := "search") (by rw [typeLookup_type, builtinLookup_eq_fast]; kernel_rfl) (by decide +kernel) (by decide +kernel) (by decide +kernel)
    (by first | exact .inl (by decide +kernel) | exact .inr (by decide +kernel)) (by rw [isSubtype_type]; kernel_rfl)
theorem type_search : typeOf (.builtin "re.Pattern.search") = pure (.type "method_descriptor") := by show builtinType _ = _; rw [builtinType_eq_fast]; kernel_rfl
theorem entry_search : entryFor table "re.Pattern.search" = some Builtin.«re.Pattern.search» := entryFor_of_tree (by kernel_rfl)
theorem args_search (a b : Value) : argsOk "re.Pattern.search" ⟨[a, b], []⟩ := by unfold argsOk; kernel_rfl
theorem quiet_search {as : Args} : (Code.builtin "re.Pattern.search" as).quiet = true := Code.quiet_builtin _ (by decide +kernel)
theorem sig_search : Manifest.signature? "re.Pattern.search" = some ⟨.keywords, "Pattern.search", "search", .self, [⟨"string", .posOrKw, true⟩, ⟨"pos", .posOrKw, false⟩, ⟨"endpos", .posOrKw, false⟩]⟩ := by kernel_rfl
theorem kind_search : builtinKind "re.Pattern.search" = some .method := by rw [builtinKind_eq_fast]; kernel_rfl
theorem pat_module : isSubtype (.type "re.Pattern") (.type "module") = pure false := by rw [isSubtype_type]; kernel_rfl
theorem check_search {a : Addr} {o : Obj} {vs : Array Value} {v : Str} {t : Tok} {Q : Unit → Shared → Prop} (ho : s.heap.get? a = some o) (hc : o.cls = .type "re.Pattern") (hd : o.data = .fields vs) (h : Q () s) :
    wpAny M A (checkBoundCall "re.Pattern.search" ⟨[.ref a, .str v t], []⟩) Q E s := by
  unfold checkBoundCall
  rw [sig_search, kind_search]
  dsimp only
  refine KFB.if_not (by decide) ?_
  refine wpAny_bind (wpAny_isInstance ⟨o, ho, hc⟩ pat_module ?_)
  refine KFB.if_not (by decide +kernel) ?_
  refine wpAny_bind (m := isType (.ref a)) ?_
  unfold isType
  refine wpAny_bind (wpAny_loadPart ho (wpAny_pure ?_))
  rw [hd]
  refine KFB.if_not rfl ?_
  refine wpAny_bind (wpAny_typeOf ⟨o, ho, hc⟩ ?_)
  exact wpAny_of_eq (by kernel_rfl) h
end
end Mine
end
section
open PySem PySem.W PyProof.Rows
set_option maxRecDepth 100000
set_option maxHeartbeats 8000000
namespace Mine
open PySem.Builtin.Re PySem.Calls
noncomputable abbrev lz : List Str := looseW hd.view_39 [Str.ofString "_controlCharPat", Str.ofString "_twin_re_1", Str.ofString "_find_unsafe"]
abbrev Cl (w : World) (mean : ExcName → Option Value) (mg mb : Str → Option Value) (f : Addr) (news : List (Addr × Obj)) (pre : Prop) (vs : List Value) (R : Tok → Value) : Prop :=
  CbClaim Challenge.rw_mj0040_01.row.prog w (hd.heap_39 w.params) hd.view_39 lz mean mg mb f news [] pre vs R

def bfind : Obj := { cls := .type "builtin_function_or_method", data := .fields #[.builtin "re.Pattern.search", .ref 48] }
def At49 (h : Heap) : Prop := h.get? 49 = some bfind
section
variable {prog : Program} {w : World} {M : Model} {A : Around} {E : Value → Shared → Prop} {s : Shared} {P : Params} {h₀ h : Heap} {L : Addr} {m : Str → Option Value} {news : List (Addr × Obj)}
theorem at49 (X : (hd.heap_39 P).In h) : At49 h := X 49 _ rfl
theorem at49F (X : (hd.heap_39 P).In h₀) (F : Fr h₀ L h m) : At49 h := at49 (X.keeps F.keep)
theorem at36 (X : (hd.heap_39 P).In h) : ∃ o, h.get? 36 = some o ∧ o.cls = .type "re.Pattern" ∧ ∃ vs, o.data = .fields vs := ⟨_, X 36 _ rfl, rfl, _, rfl⟩
theorem at48 (X : (hd.heap_39 P).In h) : ∃ o, h.get? 48 = some o ∧ o.cls = .type "re.Pattern" ∧ ∃ vs, o.data = .fields vs := ⟨_, X 48 _ rfl, rfl, _, rfl⟩
theorem pat36 (X : (hd.heap_39 P).In h) : PatAt h 36 35 ctlCode := ⟨_, _, _, _, _, _, X 36 _ rfl, rfl, X 35 _ rfl, rfl, by simp [ctlCode, reRawOf]⟩
theorem pat48 (X : (hd.heap_39 P).In h) : PatAt h 48 47 unsCode := ⟨_, _, _, _, _, _, X 48 _ rfl, rfl, X 47 _ rfl, rfl, by simp [unsCode, reRawOf]⟩

theorem callWith_find {pos : Pos} {first : List Value} {env : Env} {e : Expr} {Q : Value → Shared → Prop}
    (h : wpAny M A (spliced (backTo pos (starEach [e] env))) (fun vs s₁ => At49 s₁.heap ∧ wpAny M A (call (.ref 49) (first ++ vs)) Q E s₁) E s)
    (he : starEach [e] env = (false, eval e env) :: starEach [] env := by rfl) :
    wpAny M A (callWith pos (.ref 49) first (backTo pos (starEach [e] env)) []) Q E s := by
  rw [he] at h ⊢
  unfold callWith
  refine wpAny_bind (wpAny_holding (wpAny_mono (evalArgs_plain (f := .ref 49) (Q := fun x s₁ => At49 s₁.heap ∧ wpAny M A (call (.ref 49) (first ++ x.pos) x.kw) Q E s₁) h) (fun x s₁ h₁ => wpAny_bind (wpAny_standAt ?_)) fun _ _ x => x))
  obtain ⟨ho, hcall⟩ := h₁
  simp only [show ((backTo pos ((false, eval e env) :: starEach [] env)).any (·.1)) = false from rfl, List.any_nil, Bool.or_false]
  refine wpAny_bind (m := keeperOf (.ref 49)) ?_
  unfold keeperOf
  refine wpAny_bind (wpAny_load ho ?_)
  simp only [bfind, show (Value.type "builtin_function_or_method" != Value.type "method") = true by decide, show (Value.type "builtin_function_or_method" == Value.type "builtin_function_or_method" || Value.type "builtin_function_or_method" == Value.type "method-wrapper") = true by decide, if_true]
  refine wpAny_pure ?_
  exact wpAny_bind (wpAny_mono hcall (fun r s₂ hr => wpAny_bind (wpAny_holding (wpAny_point (wpAny_pure hr)))) fun _ _ x => x)

theorem call_find {v : Str} {t : Tok} {Q : Value → Shared → Prop} (X : (hd.heap_39 P).In h₀) (F : Fr h₀ L s.heap m) (N : News h₀ L s.heap news) (hv : v.length ≤ 16777216) (h1 : 1 ≤ v.length)
    (hn : (∀ i, i < v.length → unsU (v.cps.getD i 0) = false) → Q .none s)
    (hy : (∃ k, k < v.length ∧ unsU (v.cps.getD k 0) = true) → ∀ x h', Fr h₀ L h' m → News h₀ L h' news → Q (.ref x) { s with heap := h' }) : wpAny (model prog w) A (call (.ref 49) [.str v t]) Q E s := by
  have X' := X.keeps F.keep
  obtain ⟨o8, g8, c8, vs8, d8⟩ := at48 X'
  have ho : s.heap.get? 49 = some bfind := at49 X'
  refine wpAny_call (codeAny_of_tree ?_)
  show wpAny _ A.in1 (callAny (.ref 49) ⟨[.str v t], []⟩) _ _ s
  simp only [callAny]
  refine wpAny_bind (wpAny_load ho ?_)
  simp only [bfind, show (Value.type "builtin_function_or_method" == Value.type "method" || Value.type "builtin_function_or_method" == Value.type "builtin_function_or_method" || Value.type "builtin_function_or_method" == Value.type "method-wrapper") = true by decide, if_true]
  refine KFB.if_so (by decide) ?_
  refine wpAny_bind (check_search g8 c8 d8 ?_)
  refine wpAny_bind (wpAny_pure (wpAny_pure ?_))
  refine ⟨quiet_search, codeAny_builtin entry_search ?_⟩
  by_cases hk : ∃ k, k < v.length ∧ unsU (v.cps.getD k 0) = true
  · obtain ⟨k, hk1, hk2⟩ := id hk
    have hs := uns_some (text := v.cps) hk1 hk2
    exact search_tree (pat48 X') hv (.inr hs) (fun h0 => by rw [hs] at h0; cases h0) fun _ o₁ o₂ => hy hk _ _ (F.keeps fun b o e => Heap.get?_push_of_some _ (Heap.get?_push_of_some _ e)) (N.grown fun b o e => Heap.get?_push_of_some _ (Heap.get?_push_of_some _ e))
  · have hk' : ∀ i, i < v.length → unsU (v.cps.getD i 0) = false := fun i hi => by
      cases hu : unsU (v.cps.getD i 0) with
      | false => rfl
      | true => exact absurd ⟨i, hi, hu⟩ hk
    have hs := uns_none (text := v.cps) h1 hk'
    exact search_tree (pat48 X') hv (.inl hs) (fun _ => hn hk') fun h0 => by rw [hs] at h0; cases h0
end
end Mine
end
section
open PySem PySem.W PyProof.Rows
set_option maxRecDepth 100000
namespace Mine
open PySem.Builtin PySem.Builtin.Str

def S (l : List Nat) : PySem.Str := ⟨l.toArray⟩
def L (x : PySem.Str) : List Nat := x.cps.toList
theorem S_L (x : PySem.Str) : S (L x) = x := by
  cases x
  simp [S, L]
theorem L_S (l : List Nat) : L (S l) = l := by simp [S, L]
theorem len_L (x : PySem.Str) : (L x).length = x.length := by simp [L, PySem.Str.length]
theorem L_app (a b : PySem.Str) : L (a ++ b) = L a ++ L b := by simp [L, PySem.Str.cps_append]
theorem eq_of_L {a b : PySem.Str} (h : L a = L b) : a = b := by rw [← S_L a, ← S_L b, h]

def put (c : Nat) (z : List Nat) (k : Nat) : List Nat := if k = c then z else [k]
theorem put_free (c : Nat) (z : List Nat) : ∀ l : List Nat, c ∉ l → l.flatMap (put c z) = l
  | [], _ => rfl
  | k :: r, h => by
    have h1 : ¬ k = c := fun e => h (e ▸ List.mem_cons_self ..)
    have h2 : c ∉ r := fun m => h (List.mem_cons_of_mem _ m)
    rw [List.flatMap_cons, put_free c z r h2]
    simp [put, h1]
theorem put_join (c : Nat) (z : PySem.Str) : ∀ parts : List PySem.Str, (∀ p ∈ parts, c ∉ L p) → (L (PySem.Str.join ⟨#[c]⟩ parts)).flatMap (put c (L z)) = L (PySem.Str.join z parts)
  | [], _ => rfl
  | [p], h => put_free c _ _ (h p (List.mem_singleton.mpr rfl))
  | p :: q :: r, h => by
    have ih := put_join c z (q :: r) fun a ha => h a (List.mem_cons_of_mem _ ha)
    show (L (p ++ ⟨#[c]⟩ ++ PySem.Str.join ⟨#[c]⟩ (q :: r))).flatMap _ = L (p ++ z ++ PySem.Str.join z (q :: r))
    rw [L_app, L_app, L_app, L_app, List.flatMap_append, List.flatMap_append, ih, put_free c _ _ (h p (List.mem_cons_self ..))]
    simp [put, L]
/-- one sign replaced -/
theorem rep1 (x z : PySem.Str) (c : Nat) : L (Txt.replace x ⟨#[c]⟩ z) = (L x).flatMap (put c (L z)) := by
  rw [StrLaws.replace_one, ← put_join c z _ (StrLaws.split_free x c), StrLaws.join_split]

/-- two signs replaced -/
def rp2 (a b : Nat) (z : List Nat) : List Nat → List Nat
  | [] => []
  | [c] => [c]
  | c :: d :: r => if c = a ∧ d = b then z ++ rp2 a b z r else c :: rp2 a b z (d :: r)
theorem rp2_no (a b : Nat) (z : List Nat) : ∀ (p rest : List Nat), (∀ k, k < p.length → ¬ ((p ++ rest)[k]? = some a ∧ (p ++ rest)[k + 1]? = some b)) → rp2 a b z (p ++ rest) = p ++ rp2 a b z rest
  | [], _, _ => rfl
  | c :: p, rest, h => by
    have ih := rp2_no a b z p rest fun k hk hx => h (k + 1) (by simp; omega) (by simpa using hx)
    have h0 := h 0 (by simp)
    cases e : p ++ rest with
    | nil =>
      rw [e] at ih
      rw [List.cons_append, e]
      rw [List.cons_append, ← ih]
      rfl
    | cons d r =>
      rw [List.cons_append, e]
      rw [e] at ih
      show (if c = a ∧ d = b then _ else c :: rp2 a b z (d :: r)) = _
      rw [if_neg, ih]
      · rfl
      · rintro ⟨rfl, rfl⟩
        exact h0 (by rw [List.cons_append, e]; simp)
theorem rp2_yes (a b : Nat) (z rest : List Nat) : rp2 a b z (a :: b :: rest) = z ++ rp2 a b z rest := by
  show (if a = a ∧ b = b then _ else _) = _
  rw [if_pos ⟨rfl, rfl⟩]
theorem rp2_nil (a b : Nat) (z : List Nat) (p : List Nat) (h : ∀ k, k < p.length → ¬ (p[k]? = some a ∧ p[k + 1]? = some b)) : rp2 a b z p = p := by
  have := rp2_no a b z p [] (by simpa using h)
  simpa [rp2] using this

open StrLaws in
theorem at2 (x : PySem.Str) (a b k : Nat) : At x ⟨#[a, b]⟩ x.length k ↔ (L x)[k]? = some a ∧ (L x)[k + 1]? = some b := by
  have hn : (L x).length = x.length := len_L x
  unfold At
  rw [subAt_eq]
  have e2 : (⟨#[a, b]⟩ : PySem.Str).length = 2 := rfl
  rw [e2, beq_iff_eq]
  show k + 2 ≤ x.length ∧ List.take 2 (List.drop k (L x)) = [a, b] ↔ _
  constructor
  · rintro ⟨h1, h2⟩
    have h3 : (List.take 2 (List.drop k (L x)))[0]? = some a := by rw [h2]; rfl
    have h4 : (List.take 2 (List.drop k (L x)))[1]? = some b := by rw [h2]; rfl
    rw [List.getElem?_take_of_lt (by omega), List.getElem?_drop] at h3 h4
    exact ⟨h3, h4⟩
  · rintro ⟨h1, h2⟩
    obtain ⟨l1, g1⟩ := List.getElem?_eq_some_iff.mp h1
    obtain ⟨l2, g2⟩ := List.getElem?_eq_some_iff.mp h2
    refine ⟨by omega, ?_⟩
    rw [List.drop_eq_getElem_cons l1, List.drop_eq_getElem_cons l2, g1, g2]
    rfl

open StrLaws in
theorem rep2_parts (x z : PySem.Str) (a b : Nat) : ∀ (cuts : List Nat) (p f : Nat), ChainG x ⟨#[a, b]⟩ x.length p cuts f → (∀ k, f ≤ k → ¬ At x ⟨#[a, b]⟩ x.length k) → L (PySem.Str.join z (partsFrom x 2 p cuts)) = rp2 a b (L z) ((L x).drop p)
  | [], p, f, h, hn => by
    have e : f = p := h
    subst e
    show L (strSub x f x.length) = _
    rw [L, strSub_toList, List.take_of_length_le (by simp [PySem.Str.length])]
    show (L x).drop f = _
    rw [rp2_nil]
    intro k hk hx
    rw [List.getElem?_drop, List.getElem?_drop] at hx
    exact hn (f + k) (by omega) ((at2 x a b (f + k)).mpr ⟨hx.1, by rw [Nat.add_assoc]; exact hx.2⟩)
  | c :: r, p, f, h, hn => by
    obtain ⟨q, t, e⟩ := partsFrom_ne x 2 (c + 2) r
    have ih := rep2_parts x z a b r (c + 2) f h.2.2.2 hn
    show L (PySem.Str.join z (strSub x p c :: partsFrom x 2 (c + 2) r)) = _
    rw [e] at ih ⊢
    show L (strSub x p c ++ z ++ PySem.Str.join z (q :: t)) = _
    rw [L_app, L_app, ih]
    obtain ⟨hpc, hA, hgap, _⟩ := h
    obtain ⟨h1, h2⟩ := (at2 x a b c).mp hA
    obtain ⟨l1, g1⟩ := List.getElem?_eq_some_iff.mp h1
    obtain ⟨l2, g2⟩ := List.getElem?_eq_some_iff.mp h2
    have e1 : (L x).drop p = ((L x).drop p).take (c - p) ++ (L x).drop c := by
      have e5 : (L x).drop c = ((L x).drop p).drop (c - p) := by rw [List.drop_drop]; congr 1; omega
      rw [e5, List.take_append_drop]
    have e2 : (L x).drop c = a :: b :: (L x).drop (c + 2) := by
      rw [List.drop_eq_getElem_cons l1, List.drop_eq_getElem_cons l2, g1, g2]
    have hlen : (((L x).drop p).take (c - p)).length = c - p := by
      rw [List.length_take, List.length_drop]
      omega
    show L (strSub x p c) ++ L z ++ _ = _
    rw [L, strSub_toList]
    show ((L x).drop p).take (c - p) ++ _ ++ _ = _
    conv => rhs; rw [e1]
    rw [rp2_no, e2, rp2_yes, List.append_assoc]
    intro k hk hx
    rw [← e1, List.getElem?_drop, List.getElem?_drop] at hx
    rw [hlen] at hk
    exact hgap (p + k) (by omega) (by omega) ((at2 x a b (p + k)).mpr ⟨hx.1, by rw [Nat.add_assoc]; exact hx.2⟩)

open StrLaws in
/-- two signs replaced, as the program does it -/
theorem rep2 (x z : PySem.Str) (a b : Nat) : L (Txt.replace x ⟨#[a, b]⟩ z) = rp2 a b (L z) (L x) := by
  obtain ⟨f, hG, hn⟩ := occ_tight x ⟨#[a, b]⟩ (by show 1 ≤ 2; omega)
  unfold Txt.replace
  have h10 : ((⟨#[a, b]⟩ : PySem.Str).length == 0) = false := rfl
  rw [h10, Bool.false_and, Bool.or_false]
  have key := rep2_parts x z a b _ 0 f hG hn
  rw [List.drop_zero] at key
  cases he : (occurrences x ⟨#[a, b]⟩ 0 x.length (x.length + 1)).isEmpty
  · rw [if_neg Bool.false_ne_true, glued_eq_join, partsBetween_eq]
    exact key
  · rw [if_pos rfl]
    rw [List.isEmpty_iff.mp he] at key
    rw [← key]
    show L x = L (strSub x 0 x.length)
    rw [sub_whole]
end Mine
end
section
open PySem PySem.W PyProof.Rows
set_option maxRecDepth 100000
namespace Mine
/-! the two functions and the law's own, on lists of codes -/
def rq : Nat → List Nat := put 39 [39, 34, 39, 34, 39]
def quoteL (l : List Nat) : List Nat := if l = [] then [39, 39] else if l.all (fun c => !unsU c) then l else 39 :: l.flatMap rq ++ [39]
def escL (l : List Nat) : List Nat := ((((rp2 13 10 [10] l).flatMap (put 13 [10])).flatMap (put 38 [38, 97, 109, 112, 59])).flatMap (put 60 [38, 108, 116, 59])).flatMap (put 62 [38, 103, 116, 59])
def markL : Nat → List Nat
  | 0 => [39]
  | n + 1 => (markL n).flatMap rq
/-- "amp;" e times -/
def ampL (e : Nat) : List Nat := (List.replicate e [97, 109, 112, 59]).flatten
def signL (q e : Nat) (c d : Nat) : List Nat :=
  if (c = 13 ∨ c = 10) ∧ 0 < e then (if c = 10 ∧ d = 13 then [] else [10])
  else if c = 38 then 38 :: ampL e
  else if (c = 60 ∨ c = 62) ∧ 0 < e then 38 :: ampL (e - 1) ++ (if c = 60 then [108, 116, 59] else [103, 116, 59])
  else if c = 39 then markL q else [c]
def bodyL (q e : Nat) : Nat → List Nat → List Nat
  | _, [] => []
  | d, c :: r => signL q e c d ++ bodyL q e c r
def marksL (q : Nat) : List (List Nat) := (List.range q).map markL
def toldL (l : List Nat) (q e : Nat) : List Nat :=
  if l ≠ [] ∧ l.all (fun c => c == 97) = true then l else (marksL q).flatten ++ bodyL q e 32 l ++ (marksL q).reverse.flatten

theorem flat_len (c : Nat) (z : List Nat) : ∀ l : List Nat, (l.flatMap (put c z)).length ≤ (z.length + 1) * l.length
  | [] => by simp
  | k :: r => by
    have ih := flat_len c z r
    rw [List.flatMap_cons, List.length_append, List.length_cons, Nat.mul_add]
    have : (put c z k).length ≤ z.length + 1 := by
      unfold put
      split <;> simp
    omega
theorem rp2_len (a b : Nat) (z : List Nat) : ∀ l : List Nat, (rp2 a b z l).length ≤ (z.length + 1) * l.length
  | [] => by simp [rp2]
  | [c] => by simp [rp2]
  | c :: d :: r => by
    have i1 := rp2_len a b z r
    have i2 := rp2_len a b z (d :: r)
    unfold rp2
    split
    · rw [List.length_append, List.length_cons, List.length_cons]
      have : (z.length + 1) * (r.length + 1 + 1) = (z.length + 1) * r.length + (z.length + 1) + (z.length + 1) := by rw [Nat.mul_add, Nat.mul_add, Nat.mul_one]
      omega
    · rw [List.length_cons, List.length_cons]
      have : (z.length + 1) * ((d :: r).length + 1) = (z.length + 1) * (d :: r).length + (z.length + 1) := by rw [Nat.mul_add, Nat.mul_one]
      omega
theorem len_rep1 (x z : PySem.Str) (c : Nat) : (Txt.replace x ⟨#[c]⟩ z).length ≤ (z.length + 1) * x.length := by
  rw [← len_L, rep1, ← len_L x, ← len_L z]
  exact flat_len c _ _
end Mine
end
section
open PySem PySem.W PyProof.Rows
set_option maxRecDepth 100000
set_option maxHeartbeats 8000000
namespace Mine
theorem q_no {v : Str} (h0 : (v.length : Int) ≠ 0) (h : ∀ i, i < v.length → unsU (v.cps.getD i 0) = false) : v = S (quoteL (L v)) := by
  apply eq_of_L
  rw [L_S (quoteL (L v))]
  unfold quoteL
  have hne : L v ≠ [] := fun e => h0 (by rw [← len_L, e]; rfl)
  rw [if_neg hne, if_pos]
  rw [List.all_eq_true]
  intro c hc
  obtain ⟨i, hi⟩ := List.getElem?_of_mem hc
  have hlt := (List.getElem?_eq_some_iff.mp hi).1
  rw [len_L] at hlt
  have := h i hlt
  rw [show v.cps.getD i 0 = c by
    rw [Array.getD_eq_getD_getElem?, ← Array.getElem?_toList]
    show ((L v)[i]?).getD 0 = c
    rw [hi]; rfl] at this
  rw [this]; rfl
theorem q_yes {v : Str} (h : ∃ k, k < v.length ∧ unsU (v.cps.getD k 0) = true) : Str.ofString "'" ++ Txt.replace v (Str.ofString "'") (Str.ofString "'\"'\"'") ++ Str.ofString "'" = S (quoteL (L v)) := by
  apply eq_of_L
  rw [L_S (quoteL (L v))]
  obtain ⟨k, hk, hu⟩ := h
  unfold quoteL
  have hne : L v ≠ [] := fun e => by rw [← len_L, e] at hk; simp at hk
  rw [if_neg hne, if_neg]
  · rw [L_app, L_app, show (Str.ofString "'") = ⟨#[39]⟩ from rfl, rep1]
    rfl
  · intro ha
    rw [List.all_eq_true] at ha
    have hlt : k < (L v).length := by rw [len_L]; exact hk
    have := ha ((L v)[k]) (List.getElem_mem hlt)
    rw [show v.cps.getD k 0 = (L v)[k] by
      rw [Array.getD_eq_getD_getElem?, ← Array.getElem?_toList]
      show ((L v)[k]?).getD 0 = _
      rw [List.getElem?_eq_getElem hlt]; rfl] at hu
    rw [hu] at this
    simp at this
theorem q_nil {v : Str} (h0 : (v.length : Int) = 0) : Str.ofString "''" = S (quoteL (L v)) := by
  apply eq_of_L
  rw [L_S (quoteL (L v))]
  unfold quoteL
  rw [if_pos (List.length_eq_zero_iff.mp (by rw [len_L]; omega))]
  rfl
theorem q_len {v : Str} (h : v.length ≤ 100000) : (Txt.replace v (Str.ofString "'") (Str.ofString "'\"'\"'")).length ≤ 600000 := by
  have := len_rep1 v (Str.ofString "'\"'\"'") 39
  rw [show (Str.ofString "'\"'\"'").length = 5 from rfl] at this
  have e : (Str.ofString "'") = ⟨#[39]⟩ := rfl
  rw [e]
  omega
theorem quote_c {w : World} {mean : ExcName → Option Value} {mg mb : Str → Option Value} {news : List (Addr × Obj)} (v : Str) (t : Tok) : Cl w mean mg mb 56 news (v.length ≤ 100000) [.str v t] (fun t => .str (S (quoteL (L v))) t) := by
  unfold Cl
  w_top off
  k_fill
  dsimp only [CbClaim, CbLists, CbRet]
  intros
  rename_i hpre _ _ hret
  have cbI : CbIn 56 := CbIn.mk
  refine wpAny_call ?_
  (first | k_dflt cell_enter | ktn_no "k_call_by: the def is not entered")
  k_steps
  · rename_i hne
    refine callWith_find ?_
    k_steps
    · exact at49F (by k_asm) (by k_asm)
    refine call_find (by k_asm) (by k_asm) (by k_asm) (by omega) (by omega) ?_ ?_
    · intro hn
      k_steps
      exact cb_retS hret (q_no (by assumption) hn) (by k_asm) (by k_asm)
    · intro hy x' h' F' N'
      k_steps
      have hl := q_len hpre
      refine KOpn.add ?hs1 fun t1 k1 hb1 => ?_
      case hs1 => rw [show (Str.ofString "'").length = 1 from rfl]; omega
      rw [show (Str.ofString "'").length = 1 from rfl] at hb1
      k_steps
      exact cb_retS hret (q_yes hy) (by k_asm) (by k_asm)
  · exact cb_retS hret (q_nil (by assumption)) (by k_asm) (by k_asm)
end Mine
end
section
open PySem PySem.W PyProof.Rows
set_option maxRecDepth 100000
set_option maxHeartbeats 8000000
namespace Mine
theorem plainAttrs_pat : PlainAttrs "re.Pattern" :=
  ⟨⟨"object.__getattribute__", by rw [typeLookup_type, builtinLookup_eq_fast]; kernel_rfl, by decide +kernel⟩, by rw [typeLookup_type, builtinLookup_eq_fast]; kernel_rfl⟩
section
variable {prog : Program} {w : World} {M : Model} {A : Around} {E : Value → Shared → Prop} {s : Shared} {P : Params} {h₀ h : Heap} {L₀ : Addr} {m : Str → Option Value} {news : List (Addr × Obj)}
theorem gm_search {pl : Sem Bool} {Q : Value × List Value → Shared → Prop} (X : (hd.heap_39 P).In h₀) (F : Fr h₀ L₀ s.heap m) (h : Q (.builtin "re.Pattern.search", [.ref 36]) s) : wpAny M A (getMethod (.ref 36) (Str.ofString "search") pl) Q E s :=
  getMethod_builtin (T := "re.Pattern") ⟨_, F.keep _ _ (X 36 _ rfl), rfl⟩ plainAttrs_pat slot_search type_search (fun a e => by cases e; exact ⟨_, F.keep _ _ (X 36 _ rfl), rfl⟩) h
theorem call_ctl {v : Str} {t : Tok} {Q : Value → Shared → Prop} (X : (hd.heap_39 P).In h₀) (F : Fr h₀ L₀ s.heap m) (hv : v.length ≤ 1000) (ha : (L v).all (fun c => !ctlU c) = true) (hn : Q .none s) :
    wpAny (model prog w) A (call (.builtin "re.Pattern.search") [.ref 36, .str v t]) Q E s := by
  have hs : ((Sre.forSearch ctlCode v.cps 0 0 v.cps.size false).runFor 4).outcome = some .failed := by
    refine ctl_none fun i hi => ?_
    rw [List.all_eq_true] at ha
    have hlt : i < (L v).length := by rw [len_L]; exact hi
    have := ha ((L v)[i]) (List.getElem_mem hlt)
    rw [show v.cps.getD i 0 = (L v)[i] by
      rw [Array.getD_eq_getD_getElem?, ← Array.getElem?_toList]
      show ((L v)[i]?).getD 0 = _
      rw [List.getElem?_eq_getElem hlt]; rfl]
    simpa using this
  refine wpAny_call_entry (T := "re.Pattern") slot_search ⟨_, F.keep _ _ (X 36 _ rfl), rfl⟩ entry_search ?_ (args_search _ _)
  exact search_tree (pat36 (X.keeps F.keep)) (by omega) (.inl hs) (fun _ => ⟨_, rfl, hn⟩) fun h0 => by rw [hs] at h0; cases h0
end
theorem esc_eq (v : Str) : Txt.replace (Txt.replace (Txt.replace (Txt.replace (Txt.replace v (Str.ofString "\r\n") (Str.ofString "\n")) (Str.ofString "\r") (Str.ofString "\n")) (Str.ofString "&") (Str.ofString "&amp;")) (Str.ofString "<") (Str.ofString "&lt;")) (Str.ofString ">") (Str.ofString "&gt;") = S (escL (L v)) := by
  apply eq_of_L
  rw [L_S (escL (L v)), show Str.ofString ">" = ⟨#[62]⟩ from rfl, show Str.ofString "<" = ⟨#[60]⟩ from rfl, show Str.ofString "&" = ⟨#[38]⟩ from rfl, show Str.ofString "\r" = ⟨#[13]⟩ from rfl, show Str.ofString "\r\n" = ⟨#[13, 10]⟩ from rfl,
    rep1, rep1, rep1, rep1, rep2]
  rfl
theorem len_rep2 (x z : PySem.Str) (a b : Nat) : (Txt.replace x ⟨#[a, b]⟩ z).length ≤ (z.length + 1) * x.length := by
  rw [← len_L, rep2, ← len_L x, ← len_L z]
  exact rp2_len a b _ _
theorem esc_lens {v : Str} (h : v.length ≤ 1000) : (Txt.replace v (Str.ofString "\r\n") (Str.ofString "\n")).length ≤ 2000 ∧
    (Txt.replace (Txt.replace v (Str.ofString "\r\n") (Str.ofString "\n")) (Str.ofString "\r") (Str.ofString "\n")).length ≤ 4000 ∧
    (Txt.replace (Txt.replace (Txt.replace v (Str.ofString "\r\n") (Str.ofString "\n")) (Str.ofString "\r") (Str.ofString "\n")) (Str.ofString "&") (Str.ofString "&amp;")).length ≤ 24000 ∧
    (Txt.replace (Txt.replace (Txt.replace (Txt.replace v (Str.ofString "\r\n") (Str.ofString "\n")) (Str.ofString "\r") (Str.ofString "\n")) (Str.ofString "&") (Str.ofString "&amp;")) (Str.ofString "<") (Str.ofString "&lt;")).length ≤ 120000 ∧
    (Txt.replace (Txt.replace (Txt.replace (Txt.replace (Txt.replace v (Str.ofString "\r\n") (Str.ofString "\n")) (Str.ofString "\r") (Str.ofString "\n")) (Str.ofString "&") (Str.ofString "&amp;")) (Str.ofString "<") (Str.ofString "&lt;")) (Str.ofString ">") (Str.ofString "&gt;")).length ≤ 600000 := by
  have h1 := len_rep2 v (Str.ofString "\n") 13 10
  have e1 : (Str.ofString "\n").length = 1 := rfl
  have e2 : (Str.ofString "&amp;").length = 5 := rfl
  have e3 : (Str.ofString "&lt;").length = 4 := rfl
  have e4 : (Str.ofString "&gt;").length = 4 := rfl
  rw [e1] at h1
  have h2 := len_rep1 (Txt.replace v (Str.ofString "\r\n") (Str.ofString "\n")) (Str.ofString "\n") 13
  rw [e1] at h2
  have h3 := len_rep1 (Txt.replace (Txt.replace v (Str.ofString "\r\n") (Str.ofString "\n")) (Str.ofString "\r") (Str.ofString "\n")) (Str.ofString "&amp;") 38
  rw [e2] at h3
  have h4 := len_rep1 (Txt.replace (Txt.replace (Txt.replace v (Str.ofString "\r\n") (Str.ofString "\n")) (Str.ofString "\r") (Str.ofString "\n")) (Str.ofString "&") (Str.ofString "&amp;")) (Str.ofString "&lt;") 60
  rw [e3] at h4
  have h5 := len_rep1 (Txt.replace (Txt.replace (Txt.replace (Txt.replace v (Str.ofString "\r\n") (Str.ofString "\n")) (Str.ofString "\r") (Str.ofString "\n")) (Str.ofString "&") (Str.ofString "&amp;")) (Str.ofString "<") (Str.ofString "&lt;")) (Str.ofString "&gt;") 62
  rw [e4] at h5
  rw [show (⟨#[13, 10]⟩ : Str) = Str.ofString "\r\n" from rfl] at h1
  rw [show (⟨#[13]⟩ : Str) = Str.ofString "\r" from rfl] at h2
  rw [show (⟨#[38]⟩ : Str) = Str.ofString "&" from rfl] at h3
  rw [show (⟨#[60]⟩ : Str) = Str.ofString "<" from rfl] at h4
  rw [show (⟨#[62]⟩ : Str) = Str.ofString ">" from rfl] at h5
  omega
local macro_rules | `(tactic| walk_at "execs cons") => `(tactic| (k_here; (with_reducible refine wpAny_execs_cons ?_); try dsimp only))
local macro_rules | `(tactic| walk_at "execs nil") => `(tactic| (k_here; (with_reducible refine wpAny_execs_nil ?_); try dsimp only))
theorem esc_c {w : World} {mean : ExcName → Option Value} {mg mb : Str → Option Value} {news : List (Addr × Obj)} (v : Str) (t : Tok) : Cl w mean mg mb 43 news (v.length ≤ 1000 ∧ (L v).all (fun c => !ctlU c) = true) [.str v t] (fun t => .str (S (escL (L v))) t) := by
  unfold Cl
  w_top off
  k_fill
  dsimp only [CbClaim, CbLists, CbRet]
  intros
  rename_i hpre _ _ hret
  obtain ⟨hv, ha⟩ := hpre
  obtain ⟨l1, l2, l3, l4, l5⟩ := esc_lens hv
  have cbI : CbIn 43 := CbIn.mk
  refine wpAny_call ?_
  (first | k_dflt cell_enter | ktn_no "k_call_by: the def is not entered")
  k_steps
  refine gm_search (by k_asm) (by k_asm) ?_
  k_steps
  refine call_ctl (by k_asm) (by k_asm) hv ha ?_
  k_steps
  exact cb_retS hret (esc_eq v) (by k_asm) (by k_asm)
end Mine
end
section
open PySem PySem.W PyProof.Rows PySem.Calls
set_option maxRecDepth 100000
namespace Mine
open LCg
section
variable {prog : Program} {w : World} {A : Around} {E : Value → Shared → Prop} {s : Shared} {h₀ : Heap} {L₀ : Addr} {m : Str → Option Value} {env : Env}

/-- what a comprehension over a text of small signs asks -/
def SrcS (prog : Program) (w : World) (A : Around) (h₀ : Heap) (L₀ : Addr) (m : Str → Option Value) (env : Env) (elt : Expr) (x : Str) (scope : Scope) (cl : List (Str × Addr)) (Fin : Shared → List Value → List (Addr × Obj) → Prop) (xv : Value) (s₁ : Shared) : Prop :=
  ∃ v t news, xv = .str v t ∧ A.handled = none ∧ Fr h₀ L₀ s₁.heap m ∧ News h₀ L₀ s₁.heap news ∧ v.cps.all (· < 128) = true ∧ v.cps.size ≤ sizeLine ∧
    ∀ s₂ : Shared, (∃ h, s₂ = { s₁ with heap := h }) → CompRest prog w A h₀ L₀ m env elt x scope cl s₂ (fun _ => True) (SignAt v) (Fin s₂) v.cps.size 0 [] news

theorem str_st {I : Addr} {v : Str} {t : Tok} : ∀ i (h h' : Heap) (o : Obj) (nw : List (Addr × Obj)), h.IsStrIter I "str_ascii_iterator" v t i → h.get? I = some o → h'.get? I = some o → (∀ b o, h₀.get? b = some o → h'.get? b = some o) → News h₀ L₀ h' nw → True → h'.IsStrIter I "str_ascii_iterator" v t i :=
  fun i h h' o nw st e e' _ _ _ => by
    obtain ⟨o', q, r⟩ := st
    rw [e] at q
    cases q
    exact ⟨o, e', r⟩

theorem ListComp_S {elt iter : Expr} {x : Str} {px : Pos} {scope : Scope} {cl : List (Str × Addr)} {pos : Pos} {Q : Value → Shared → Prop} (_F₀ : Fr h₀ L₀ s.heap m)
    (hclos : closureFor scope env = pure cl) (hcell : ∀ y ∈ scope.names, y.2 ≠ .cell) (hkind : scope.kind = .function)
    (hnames : ∀ y ∈ scope.names, y.2 = .local → scope.names.lookup y.1 = some .local) (hx : scope.names.lookup x = some .local)
    (h : wpAny (model prog w) A (eval iter env) (SrcS prog w A h₀ L₀ m env elt x scope cl (fun s₂ => FinE h₀ L₀ m s₂ Q)) E s)
    (hs : ∀ x, foldedSetIterable iter env x = pure x := by intro _; rfl) :
    wpAny (model prog w) A (eval (.ListComp elt [⟨.Name x px, iter, [], 0⟩] scope pos) env) Q E s := by
  rw [eval_ListComp]
  refine wpAny_comprehension_free (use := none) rfl hs hclos hkind hnames (wpAny_mono h (fun xv s₁ h₁ => ?_) fun _ _ e => e)
  obtain ⟨v, t, news, rfl, hh, F, N, ha, hsz, R⟩ := h₁
  refine wpAny_pyIter_ascii ha ?_
  have up : ∀ b o, s₁.heap.get? b = some o → (s₁.heap.push { cls := .type "str_ascii_iterator", data := .fields #[.str v t, .int 0 0] }).get? b = some o := fun b o e => Heap.get?_push_of_some _ e
  refine block_U (Walks.strAscii hh s₁.heap.objs.size v t) hsz (fun i h st => by obtain ⟨o, e, _⟩ := st; exact ⟨o, e⟩) str_st hcell hkind hx ⟨_, Heap.get?_push_size _ rfl, rfl, rfl⟩ (fun b hb => ?_)
    (F.keeps up) (N.grown up) (Nat.ne_of_lt F.ns.lt) (next_is_new F) (fun p hp => Nat.ne_of_lt (Heap.lt_size (N p hp).1)) trivial (R _ ⟨_, rfl⟩) ?_
  · rw [List.mem_singleton.mp hb]
    show s₁.heap.objs.size < (s₁.heap.push _).objs.size
    rw [Heap.size_push]; exact Nat.lt_succ_self _
  · intro D C h tk m' ys news' F' N' o1 hn hC₀ hD₀ hCL hDL hCD offC fin
    refine ⟨m', hn, fun h'' hs'' => fin D h'' tk (F'.change hs'' hCL hC₀) (fun p hp => ?_) o1⟩
    refine ⟨hs''.extBut _ _ ?_ (N' p hp).1, (N' p hp).2⟩
    rcases List.mem_cons.mp hp with rfl | hp
    · exact Ne.symm hCD
    · exact offC p hp

/-- an element is the text g c, and nothing else is left behind -/
def ElS (news : List (Addr × Obj)) (r : Str) (y : Value) (news' : List (Addr × Obj)) : Prop := news' = news ∧ ∃ t : Tok, y = .str r t

theorem rest_S {elt : Expr} {x : Str} {scope : Scope} {cl : List (Str × Addr)} {s : Shared} {S₀ : List (Addr × Obj) → Prop} {Fin : List Value → List (Addr × Obj) → Prop} {news : List (Addr × Obj)} {v : Str} (g : Nat → Str)
    (turn : ∀ c t I oI C oC D m₂ ys h tk (E' : Value → Shared → Prop), c ∈ L v → NsObj oC m₂ → m₂ x = some (.str ⟨#[c]⟩ t) → Fr h₀ L₀ h m → News h₀ L₀ h ((I, oI) :: (C, oC) :: (D, lst ys) :: news) → Off3 I C D news → ((@Ne Nat I C) ∧ (@Ne Nat I D) ∧ (@Ne Nat C D)) →
      wpAny (model prog w) A (eval elt (compEnvC scope cl C env)) (CompEnd h₀ L₀ m { s with heap := h, toks := tk } I oI C oC D (lst ys) S₀ (ElS news (g c))) E' { s with heap := h, toks := tk })
    (fin : ∀ ys, StrsAre ys ((L v).map g) → Fin ys news) : CompRest prog w A h₀ L₀ m env elt x scope cl s S₀ (SignAt v) Fin v.cps.size 0 [] news := by
  have hlen : (L v).length = v.cps.size := by simp [L]
  have key : ∀ (j i : Nat) (ys : List Value), i + j = v.cps.size → StrsAre ys (((L v).take i).map g) → CompRest prog w A h₀ L₀ m env elt x scope cl s S₀ (SignAt v) Fin j i ys news := by
    intro j
    induction j with
    | zero =>
      intro i ys hi hy
      have e : i = (L v).length := by omega
      subst e
      rw [List.take_length] at hy
      exact CompRest.zero (fin ys hy)
    | succ j ih =>
      intro i ys hi hy
      refine CompRest.succ ?_
      intro v' I oI C oC D m₂ h tk E' hv hC hx F N off ne
      obtain ⟨c, t, hc, hv'⟩ := hv
      rw [hv'] at hx
      have hc' : (L v)[i]? = some c := by rw [L, Array.getElem?_toList]; exact hc
      refine wpAny_mono (turn c t I oI C oC D m₂ ys h tk E' (List.mem_of_getElem? hc') hC hx F N off ne) (fun y s₂ hq => ?_) fun _ _ e => e
      obtain ⟨h', tk', nw, e, F', N', off', hS, hn, t', hy'⟩ := hq
      rw [hn] at N' off' hS
      refine ⟨h', tk', news, e, F', N', off', hS, ?_⟩
      rw [hy']
      refine ih (i + 1) _ (by omega) ?_
      rw [List.take_add_one, hc']
      simpa using kct_snoc hy
  exact key v.cps.size 0 [] (by omega) (by simp only [List.take_zero, List.map_nil]; exact .nil)
theorem L_join : ∀ ys : List Str, L (Txt.join (Str.ofString "") ys) = (ys.map L).flatten
  | [] => rfl
  | [y] => by
    show L (Builtin.Str.glued (Str.ofString "") [y]) = _
    rw [StrLaws.glued_eq_join]
    simp [Str.join]
  | y :: z :: r => by
    have ih := L_join (z :: r)
    have e : ∀ l, L (Txt.join (Str.ofString "") l) = L (Str.join (Str.ofString "") l) := fun l => congrArg L (StrLaws.glued_eq_join _ l)
    rw [e] at ih ⊢
    show L (y ++ Str.ofString "" ++ Str.join (Str.ofString "") (z :: r)) = _
    rw [L_app, L_app, ih, show L (Str.ofString "") = [] from rfl]
    simp
theorem join_S {D : Addr} {ys : List Value} {tl : List Str} {t : Tok} {Q : Value → Shared → Prop} (hl : s.heap.IsList D ys.toArray) (hi : StrsAre ys tl) (hok : (tl.map L).flatten.length ≤ 1000000)
    (h : ∀ t' k, Q (.str (S (tl.map L).flatten) t') { s with toks := k }) : wpAny (model prog w) A (call (.builtin "str.join") [.str (Str.ofString "") t, .ref D]) Q E s := by
  refine join_list hl (by simpa using hi) ?_ fun t' k => ?_
  · have e : (tl.map (·.length)).sum = (tl.map L).flatten.length := by
      rw [List.length_flatten, List.map_map]
      congr 1
    rw [e, show (Str.ofString "").length = 0 from rfl]
    omega
  · have e : Txt.join (Str.ofString "") tl = S (tl.map L).flatten := by
      apply eq_of_L
      rw [L_join, L_S (tl.map L).flatten]
    rw [e]
    exact h t' k
theorem lst_list {h : Heap} {news : List (Addr × Obj)} {D : Addr} {ys : List Value} (N : News h₀ L₀ h news) (hm : (D, lst ys) ∈ news) : h.IsList D ys.toArray := ⟨_, (N _ hm).1, rfl, _, rfl⟩
end
end Mine
end
section
open PySem PySem.W PyProof.Rows
set_option maxRecDepth 100000
set_option maxHeartbeats 8000000
namespace Mine
open LCg
/-- a claim about a call that may go k frames deep -/
abbrev ClK (w : World) (mean : ExcName → Option Value) (mg mb : Str → Option Value) (f : Addr) (news : List (Addr × Obj)) (k : Nat) (vs : List Value) (R : Tok → Value) : Prop :=
  ∀ (dp un : Nat) (gd : Option (List Code)) (cn : Str) (cs : Scope) (a : Addr) (ccd : Value) (cl : List (Str × Addr)) (outer : List Env) (A₀ : Around) (base h₀ : Heap) (L : Addr) (m : Str → Option Value) (s : Shared) (Q E : Value → Shared → Prop),
    Below A₀ base outer h₀ → Fr h₀ L s.heap m → (hd.heap_39 w.params).In h₀ → News h₀ L s.heap news → Top hd.view_39 lz mean mg mb h₀ → cs.kind = .function →
    dp + k < recursionLimit → un + 8 * k < cLine → CbRet h₀ L m news s Q R →
      wpAny (model Challenge.rw_mj0040_01.row.prog w) (ktrTop dp un gd cn cs L a ccd cl outer) (call (.ref f) vs) Q E s
def Hold (P : Prop) : Prop := P
theorem Hold.to {P : Prop} (h : Hold P) : P := h

theorem mark_mem : ∀ (n : Nat), ∀ c ∈ markL n, c = 39 ∨ c = 34
  | 0, c, h => by simp [markL] at h; exact .inl h
  | n + 1, c, h => by
    unfold markL at h
    rw [List.mem_flatMap] at h
    obtain ⟨k, hk, hc⟩ := h
    have := mark_mem n k hk
    unfold rq put at hc
    split at hc
    · simp at hc
      omega
    · simp at hc
      omega
theorem mark_asc (n : Nat) : (S (markL n)).cps.all (· < 128) = true := by
  rw [← Array.all_toList]
  show (L (S (markL n))).all _ = true
  rw [L_S (markL n), List.all_eq_true]
  intro c hc
  rcases mark_mem n c hc with rfl | rfl <;> decide
theorem mark_len (n : Nat) (hn : n ≤ 4) : (markL n).length ≤ 161 := by
  match n, hn with
  | 0, _ | 1, _ | 2, _ | 3, _ | 4, _ => decide
theorem mark_size (n : Nat) (hn : n ≤ 3) : (S (markL n)).cps.size ≤ sizeLine := by
  have := mark_len n (by omega)
  rw [sizeLine_eq]
  show (markL n).toArray.size ≤ _
  simp only [List.size_toArray]
  omega
theorem sign_eq {c k : Nat} (h : ((⟨#[c]⟩ : Str) == ⟨#[k]⟩) = true) : c = k := by
  have e := eq_of_beq h
  injection e with e1
  simpa using e1
theorem rq_yes {c : Nat} (h : ((⟨#[c]⟩ : Str) == Str.ofString "'") = true) : Str.ofString "'\"'\"'" = S (rq c) := by
  have := sign_eq (k := 39) h
  subst this
  rfl
theorem rq_no {c : Nat} (h : ((⟨#[c]⟩ : Str) == Str.ofString "'") = false) : (⟨#[c]⟩ : Str) = S (rq c) := by
  have : c ≠ 39 := fun e => by subst e; revert h; decide
  unfold rq put
  rw [if_neg this]
  rfl
theorem mark_flat (n : Nat) : (((L (S (markL n))).map fun c => S (rq c)).map L).flatten = markL (n + 1) := by
  rw [L_S (markL n), List.map_map]
  show _ = (markL n).flatMap rq
  rw [List.flatMap_def]
  congr 1
section
local macro_rules | `(tactic| walk_at "eval ListComp") => `(tactic| (k_here; k_dflt (refine ListComp_S (by k_asm) (by with_unfolding_all rfl) (by decide) (by rfl) (by decide) (by rfl) ?_)))
local macro_rules | `(tactic| walk_at "call ref") => `(tactic| ((with_reducible show wpAny _ _ (call (Value.ref 61) _) _ _ _); refine Hold.to ?_))
theorem mark_0 {w : World} {mean : ExcName → Option Value} {mg mb : Str → Option Value} (news : List (Addr × Obj)) (t : Tok) : ClK w mean mg mb 61 news 1 [.int 0 t] (fun t => .str (S (markL 0)) t) := by
  unfold ClK
  w_top off
  k_fill
  dsimp only [CbRet]
  intros
  rename_i hret
  have cbI : CbIn 61 := CbIn.mk
  refine wpAny_call ?_
  (first | k_dflt cell_enter | ktn_no "k_call_by: the def is not entered")
  k_steps
  exact cb_retS hret rfl (by k_asm) (by k_asm)
theorem mark_s {w : World} {mean : ExcName → Option Value} {mg mb : Str → Option Value} (n : Nat) (hn : n ≤ 3) (ih : ∀ (news : List (Addr × Obj)) (t : Tok), ClK w mean mg mb 61 news (n + 1) [.int n t] (fun t => .str (S (markL n)) t))
   (news : List (Addr × Obj)) (t : Tok) : ClK w mean mg mb 61 news (n + 2) [.int ((n : Int) + 1) t] (fun t => .str (S (markL (n + 1))) t) := by
  unfold ClK
  w_top off
  k_fill
  dsimp only [CbRet]
  intros
  rename_i hret
  have cbI : CbIn 61 := CbIn.mk
  refine wpAny_call ?_
  (first | k_dflt cell_enter | ktn_no "k_call_by: the def is not entered")
  k_steps
  · exfalso; omega
  unfold Hold
  rw [Int.add_sub_cancel]
  refine' ih _ _ _ _ _ _ _ _ _ _ _ _ _ _ _ _ _ _ _ ?k1 ?k2 ?k3 ?k4 ?k5 ?kK ?kd ?ku ?kR
  case k1 => k_asm
  case k2 => k_asm
  case k3 => k_asm
  case k4 => k_asm
  case k5 => k_asm
  case kK => rfl
  case kd => ktr_room
  case ku => ktr_units
  case kR =>
    intro t9 h9 tk9 F9 N9
    k_steps
    refine ⟨_, _, _, rfl, rfl, F9, N9, mark_asc n, mark_size n hn, fun s₂ hs₂ => ?_⟩
    obtain ⟨g₂, rfl⟩ := hs₂
    refine rest_S (fun c => S (rq c)) ?turn ?fin
    case turn =>
      intro c t' I oI C oC D m₂ ys h tk E' hc hC hx F' N' off ne
      k_steps
      · rename_i hb
        exact CompEnd.intro F' N' news (fun p hp => hp) off trivial ⟨rfl, _, congrArg (Value.str · _) (rq_yes hb)⟩
      · rename_i hb
        exact CompEnd.intro F' N' news (fun p hp => hp) off trivial ⟨rfl, _, congrArg (Value.str · _) (rq_no hb)⟩
    case fin =>
      intro ys hys D h tk F' N' off
      k_steps
      refine join_S (lst_list N' (List.mem_cons_self ..)) hys ?_ fun t' k => ?_
      · rw [mark_flat]
        have := mark_len (n + 1) (by omega)
        omega
      rw [mark_flat]
      k_steps
      exact cb_retS hret rfl (by k_asm) (cb_drop (by k_asm) fun p hp => List.mem_cons_of_mem _ hp)
end
theorem ClK.mono {w : World} {mean : ExcName → Option Value} {mg mb : Str → Option Value} {f : Addr} {news : List (Addr × Obj)} {k k' : Nat} {vs : List Value} {R : Tok → Value} (h : ClK w mean mg mb f news k vs R) (hk : k ≤ k') : ClK w mean mg mb f news k' vs R :=
  fun dp un gd cn cs a ccd cl outer A₀ base h₀ L m s Q E B F X N T hc hd hu hr => h dp un gd cn cs a ccd cl outer A₀ base h₀ L m s Q E B F X N T hc (by omega) (by omega) hr
theorem mark_all {w : World} {mean : ExcName → Option Value} {mg mb : Str → Option Value} : ∀ (n : Nat), n ≤ 4 → ∀ (news : List (Addr × Obj)) (t : Tok), ClK w mean mg mb 61 news (n + 1) [.int n t] (fun t => .str (S (markL n)) t)
  | 0, _ => fun news t => mark_0 news t
  | n + 1, h => fun news t => mark_s n (by omega) (mark_all n (by omega)) news t
theorem mark_c {w : World} {mean : ExcName → Option Value} {mg mb : Str → Option Value} (n : Nat) (hn : n ≤ 4) (news : List (Addr × Obj)) (t : Tok) : ClK w mean mg mb 61 news 5 [.int n t] (fun t => .str (S (markL n)) t) :=
  (mark_all n hn news t).mono (by omega)
end Mine
end
section
open PySem PySem.W PyProof.Rows
set_option maxRecDepth 100000
set_option maxHeartbeats 8000000
namespace Mine
theorem occ2 (a b c : Nat) (hab : a ≠ b) : (Builtin.Str.occurrences ⟨#[a, b]⟩ ⟨#[c]⟩ 0 (⟨#[a, b]⟩ : Str).length 1).isEmpty = !(decide (c = a) || decide (c = b)) := by
  have e2 : (⟨#[a, b]⟩ : Str).length = 2 := rfl
  have e1 : (⟨#[c]⟩ : Str).length = 1 := rfl
  have s0 : Builtin.Str.subAt ⟨#[a, b]⟩ ⟨#[c]⟩ 0 = decide (c = a) := by
    show ((#[a, b] : Array Nat).extract 0 1 == #[c]) = _
    rw [show (#[a, b] : Array Nat).extract 0 1 = #[a] from rfl]
    by_cases h : c = a
    · subst h; simp
    · have h' : ¬ a = c := fun e => h e.symm
      simp [h, h']
  have s1 : Builtin.Str.subAt ⟨#[a, b]⟩ ⟨#[c]⟩ 1 = decide (c = b) := by
    show ((#[a, b] : Array Nat).extract 1 2 == #[c]) = _
    rw [show (#[a, b] : Array Nat).extract 1 2 = #[b] from rfl]
    by_cases h : c = b
    · subst h; simp
    · have h' : ¬ b = c := fun e => h e.symm
      simp [h, h']
  rw [StrLaws.occ_eq, e2, show List.range' 0 (2 + 1 - 0) = [0, 1, 2] from rfl]
  simp only [List.forIn_cons, List.forIn_nil, StrLaws.occBody, e1, s0, s1]
  by_cases h0 : c = a
  · simp [h0]
  · by_cases h1 : c = b
    · subst h1
      simp [h0]
    · simp [h0, h1]
theorem occ_rn (c : Nat) : (Builtin.Str.occurrences (Str.ofString "\r\n") ⟨#[c]⟩ 0 (Str.ofString "\r\n").length 1).isEmpty = !(decide (c = 13) || decide (c = 10)) := occ2 13 10 c (by decide)
theorem occ_lg (c : Nat) : (Builtin.Str.occurrences (Str.ofString "<>") ⟨#[c]⟩ 0 (Str.ofString "<>").length 1).isEmpty = !(decide (c = 60) || decide (c = 62)) := occ2 60 62 c (by decide)
theorem beq1 (c k : Nat) : ((⟨#[c]⟩ : Str) == ⟨#[k]⟩) = decide (c = k) := by
  rw [Bool.eq_iff_iff]
  constructor
  · intro h
    exact decide_eq_true (sign_eq h)
  · intro h
    rw [of_decide_eq_true h]
    exact beq_self_eq_true _
theorem beq_amp (c : Nat) : ((⟨#[c]⟩ : Str) == Str.ofString "&") = decide (c = 38) := beq1 c 38
theorem beq_apo (c : Nat) : ((⟨#[c]⟩ : Str) == Str.ofString "'") = decide (c = 39) := beq1 c 39
theorem beq_n (c : Nat) : ((⟨#[c]⟩ : Str) == Str.ofString "\n") = decide (c = 10) := beq1 c 10
theorem beq_r (c : Nat) : ((⟨#[c]⟩ : Str) == Str.ofString "\r") = decide (c = 13) := beq1 c 13
theorem foldl_cat : ∀ (l : List (Array Nat)) (a : Array Nat), (l.foldl (· ++ ·) a).toList = a.toList ++ (l.map (·.toList)).flatten
  | [], a => by simp
  | x :: r, a => by rw [List.foldl_cons, foldl_cat r]; simp
theorem L_mul (e : Nat) : L (Txt.mul (Str.ofString "amp;") (e : Int)) = ampL e := by
  unfold Txt.mul ampL
  by_cases h0 : e = 0
  · subst h0; rfl
  · rw [if_neg (by omega)]
    by_cases h1 : e = 1
    · subst h1; rfl
    · rw [if_neg (by rw [show ((Str.ofString "amp;").length == 0) = false from rfl, Bool.or_false, beq_iff_eq]; omega)]
      unfold L
      rw [foldl_cat]
      simp
      rfl
theorem L_mul1 (e : Nat) (h : 0 < e) : L (Txt.mul (Str.ofString "amp;") ((e : Int) - 1)) = ampL (e - 1) := by
  rw [← L_mul]
  congr 2
  omega
section
variable {c d q e : Nat}
theorem w_amp (h : c = 38) : Str.ofString "&" ++ Txt.mul (Str.ofString "amp;") (e : Int) = S (signL q e c d) := by
  apply eq_of_L
  rw [L_S (signL q e c d), L_app, L_mul]
  subst h
  simp [signL]
  rfl
theorem w_self (h1 : ¬ ((c = 13 ∨ c = 10) ∧ 0 < e)) (h2 : c ≠ 38) (h3 : ¬ ((c = 60 ∨ c = 62) ∧ 0 < e)) (h4 : c ≠ 39) : (⟨#[c]⟩ : Str) = S (signL q e c d) := by
  unfold signL
  rw [if_neg h1, if_neg h2, if_neg h3, if_neg h4]
  rfl
theorem w_mark (h : c = 39) : S (markL q) = S (signL q e c d) := by
  subst h
  simp [signL]
theorem w_none (h : c = 10) (hd : d = 13) (he : 0 < e) : Str.ofString "" = S (signL q e c d) := by
  subst h hd
  simp [signL, he]
  rfl
theorem w_lf (h : c = 13 ∨ c = 10) (hd : ¬ (c = 10 ∧ d = 13)) (he : 0 < e) : Str.ofString "\n" = S (signL q e c d) := by
  unfold signL
  rw [if_pos ⟨h, he⟩, if_neg hd]
  rfl
theorem w_lt (he : 0 < e) : Str.ofString "&" ++ Txt.mul (Str.ofString "amp;") ((e : Int) - 1) ++ Str.ofString "lt;" = S (signL q e 60 d) := by
  apply eq_of_L
  rw [L_S (signL q e 60 d), L_app, L_app, L_mul1 e he]
  simp [signL, he]
  rfl
theorem w_gt (he : 0 < e) : Str.ofString "&" ++ Txt.mul (Str.ofString "amp;") ((e : Int) - 1) ++ Str.ofString "gt;" = S (signL q e 62 d) := by
  apply eq_of_L
  rw [L_S (signL q e 62 d), L_app, L_app, L_mul1 e he]
  simp [signL, he]
  rfl
end
end Mine
end
section
open PySem PySem.W PyProof.Rows
set_option maxRecDepth 100000
set_option maxHeartbeats 8000000
namespace Mine
section
variable {c d q e : Nat}
theorem v_amp (h : ((⟨#[c]⟩ : Str) == Str.ofString "&") = true) : Str.ofString "&" ++ Txt.mul (Str.ofString "amp;") (e : Int) = S (signL q e c d) := w_amp (of_decide_eq_true (beq_amp c ▸ h))
theorem v_mark (h : ((⟨#[c]⟩ : Str) == Str.ofString "'") = true) : S (markL q) = S (signL q e c d) := w_mark (of_decide_eq_true (beq_apo c ▸ h))
theorem rn_t (h : (Builtin.Str.occurrences (Str.ofString "\r\n") ⟨#[c]⟩ 0 (Str.ofString "\r\n").length 1).isEmpty = true) : ¬ ((c = 13 ∨ c = 10) ∧ 0 < e) := by
  rw [occ_rn] at h
  simp at h
  omega
theorem rn_f (h : (Builtin.Str.occurrences (Str.ofString "\r\n") ⟨#[c]⟩ 0 (Str.ofString "\r\n").length 1).isEmpty = false) : c = 13 ∨ c = 10 := by
  rw [occ_rn] at h
  simp at h
  omega
theorem no_e (P : Prop) (h : ¬ (0 : Int) < (e : Int)) : ¬ (P ∧ 0 < e) := fun x => h (by have := x.2; omega)
theorem lg_t (h : (Builtin.Str.occurrences (Str.ofString "<>") ⟨#[c]⟩ 0 (Str.ofString "<>").length 1).isEmpty = true) : ¬ ((c = 60 ∨ c = 62) ∧ 0 < e) := by
  rw [occ_lg] at h
  simp at h
  omega
theorem lg_f (h : (Builtin.Str.occurrences (Str.ofString "<>") ⟨#[c]⟩ 0 (Str.ofString "<>").length 1).isEmpty = false) : c = 60 ∨ c = 62 := by
  rw [occ_lg] at h
  simp at h
  omega
theorem ne_amp (h : ((⟨#[c]⟩ : Str) == Str.ofString "&") = false) : c ≠ 38 := of_decide_eq_false (beq_amp c ▸ h)
theorem ne_apo (h : ((⟨#[c]⟩ : Str) == Str.ofString "'") = false) : c ≠ 39 := of_decide_eq_false (beq_apo c ▸ h)
theorem v_none (h : ((⟨#[c]⟩ : Str) == Str.ofString "\n") = true) (hd : ((⟨#[d]⟩ : Str) == Str.ofString "\r") = true) (he : (0 : Int) < (e : Int)) : Str.ofString "" = S (signL q e c d) :=
  w_none (of_decide_eq_true (beq_n c ▸ h)) (of_decide_eq_true (beq_r d ▸ hd)) (by omega)
theorem v_lf1 (h : (Builtin.Str.occurrences (Str.ofString "\r\n") ⟨#[c]⟩ 0 (Str.ofString "\r\n").length 1).isEmpty = false) (hd : ((⟨#[d]⟩ : Str) == Str.ofString "\r") = false) (he : (0 : Int) < (e : Int)) : Str.ofString "\n" = S (signL q e c d) :=
  w_lf (rn_f h) (fun x => of_decide_eq_false (beq_r d ▸ hd) x.2) (by omega)
theorem v_lf2 (h : (Builtin.Str.occurrences (Str.ofString "\r\n") ⟨#[c]⟩ 0 (Str.ofString "\r\n").length 1).isEmpty = false) (hd : ((⟨#[c]⟩ : Str) == Str.ofString "\n") = false) (he : (0 : Int) < (e : Int)) : Str.ofString "\n" = S (signL q e c d) :=
  w_lf (rn_f h) (fun x => of_decide_eq_false (beq_n c ▸ hd) x.1) (by omega)
end
section
local macro_rules | `(tactic| walk_at "call ref") => `(tactic| ((with_reducible show wpAny _ _ (call (Value.ref 61) _) _ _ _); refine Hold.to ?_))
theorem sign_c {w : World} {mean : ExcName → Option Value} {mg mb : Str → Option Value} (c d q e : Nat) (hq : q ≤ 4) (he : e ≤ 4) (news : List (Addr × Obj)) (t1 t2 t3 t4 : Tok) :
   ClK w mean mg mb 68 news 6 [.str ⟨#[c]⟩ t1, .str ⟨#[d]⟩ t2, .int q t3, .int e t4] (fun t => .str (S (signL q e c d)) t) := by
  unfold ClK
  w_top off
  k_fill
  dsimp only [CbRet]
  intros
  rename_i hret
  have cbI : CbIn 68 := CbIn.mk
  refine wpAny_call ?_
  (first | k_dflt cell_enter | ktn_no "k_call_by: the def is not entered")
  k_steps
  all_goals try (
    unfold Hold
    refine' mark_c q hq _ _ _ _ _ _ _ _ _ _ _ _ _ _ _ _ _ _ _ ?k1 ?k2 ?k3 ?k4 ?k5 ?kK ?kd ?ku ?kR
    (case k1 => k_asm)
    (case k2 => k_asm)
    (case k3 => k_asm)
    (case k4 => k_asm)
    (case k5 => k_asm)
    (case kK => rfl)
    (case kd => ktr_room)
    (case ku => ktr_units)
    (case kR => intro t9 h9 tk9 F9 N9; k_steps; exact cb_retS hret (v_mark (by assumption)) (by k_asm) (by k_asm)))
  · exact cb_retS hret (v_amp (by assumption)) (by k_asm) (by k_asm)
  · exact cb_retS hret (w_self (rn_t (by assumption)) (ne_amp (by assumption)) (lg_t (by assumption)) (ne_apo (by assumption))) (by k_asm) (by k_asm)
  · exfalso
    have h1 := lg_t (c := c) (e := 1) (by assumption)
    have h2 := lg_f (c := c) (by assumption)
    exact h1 ⟨h2, by omega⟩
  · rcases lg_f (c := c) (by assumption) with rfl | rfl
    · rw [show Txt.find (Str.ofString "<>") ⟨#[60]⟩ = 0 by decide +kernel]
      k_steps
      exact cb_retS hret (w_lt (by omega)) (by k_asm) (cb_drop (by k_asm) fun p hp => List.mem_cons_of_mem _ hp)
    · rw [show Txt.find (Str.ofString "<>") ⟨#[62]⟩ = 1 by decide +kernel]
      k_steps
      exact cb_retS hret (w_gt (by omega)) (by k_asm) (cb_drop (by k_asm) fun p hp => List.mem_cons_of_mem _ hp)
  · exact cb_retS hret (w_self (rn_t (by assumption)) (ne_amp (by assumption)) (no_e _ (by assumption)) (ne_apo (by assumption))) (by k_asm) (by k_asm)
  · exact cb_retS hret (v_none (by assumption) (by assumption) (by assumption)) (by k_asm) (by k_asm)
  · exact cb_retS hret (v_lf1 (by assumption) (by assumption) (by assumption)) (by k_asm) (by k_asm)
  · exact cb_retS hret (v_lf2 (by assumption) (by assumption) (by assumption)) (by k_asm) (by k_asm)
  · exact cb_retS hret (v_amp (by assumption)) (by k_asm) (by k_asm)
  · exact cb_retS hret (w_self (no_e _ (by assumption)) (ne_amp (by assumption)) (lg_t (by assumption)) (ne_apo (by assumption))) (by k_asm) (by k_asm)
  · exact cb_retS hret (w_self (no_e _ (by assumption)) (ne_amp (by assumption)) (no_e _ (by assumption)) (ne_apo (by assumption))) (by k_asm) (by k_asm)
end
end Mine
end
section
open PySem PySem.W PyProof.Rows PySem.Calls
set_option maxRecDepth 100000
namespace Mine
open LCg

section
variable {prog : Program} {w : World} {A : Around} {E : Value → Shared → Prop} {s : Shared}
abbrev AIt (h : Heap) (a : Addr) (x : Str) (t : Tok) (i : Nat) : Prop := h.IsStrIter a "str_ascii_iterator" x t i
theorem AIt.at {h h' : Heap} {a : Addr} {x : Str} {t : Tok} {i : Nat} (y : AIt h a x t i) (k : ∀ o, h.get? a = some o → h'.get? a = some o) : AIt h' a x t i := let ⟨o, ho, r⟩ := y; ⟨o, k o ho, r⟩

structure Five (z TI TO i1 i2 : Addr) : Prop where
  TIz : TI ≠ z
  TOz : TO ≠ z
  i1z : i1 ≠ z
  i2z : i2 ≠ z
  TITO : TI ≠ TO
  TIi1 : TI ≠ i1
  TIi2 : TI ≠ i2
  TOi1 : TO ≠ i1
  TOi2 : TO ≠ i2
  i12 : i1 ≠ i2

/-- one more pair of signs -/
theorem zs_next_item {z TI TO i1 i2 : Addr} {k1 k2 c d : Nat} {x y : Str} {t u : Tok} {a b : Value} {Q : Value → Shared → Prop} (D : Five z TI TO i1 i2)
    (hz : IsZip s.heap z TI TO .none) (hTI : IsPair s.heap TI (.ref i1) (.ref i2)) (hTO : IsPair s.heap TO a b)
    (h1 : AIt s.heap i1 x t k1) (h2 : AIt s.heap i2 y u k2) (hx : x.cps[k1]? = some c) (hy : y.cps[k2]? = some d)
    (hQ : ∀ h' t1 t2 tk, IsZip h' z TI TO (rawInt s.heap.objs.size) → IsPair h' TO (.str ⟨#[c]⟩ t1) (.str ⟨#[d]⟩ t2) → AIt h' i1 x t (k1 + 1) → AIt h' i2 y u (k2 + 1) → IsPair h' s.heap.objs.size (.str ⟨#[c]⟩ t1) (.str ⟨#[d]⟩ t2) → h'.objs.size = s.heap.objs.size + 1 →
      (∀ c o, c ≠ z → c ≠ TO → c ≠ i1 → c ≠ i2 → s.heap.get? c = some o → h'.get? c = some o) → Q (.ref s.heap.objs.size) { s with heap := h', toks := tk }) :
    wpAny (model prog w) A (Builtin.«zip.__next__» ⟨[.ref z], []⟩) (fun fin s' => ∃ v, fin = .done (.ret v) ∧ Q v s') E s := by
  show wpAny _ _ (field (.ref z) 2 >>= _) _ _ _
  refine wpAny_bind (wpAny_field hz rfl (x := .bool false) rfl ?_)
  show wpAny _ _ (field (.ref z) 3 >>= _) _ _ _
  refine wpAny_bind (wpAny_field hz rfl (x := .ref TI) rfl ?_)
  refine wpAny_bind (wpAny_seqItems hTI rfl ?_)
  show wpAny _ _ (Builtin.SmallTypes.ownedTupleIsFree (.ref z) >>= _) _ _ _
  refine wpAny_bind ?_
  unfold Builtin.SmallTypes.ownedTupleIsFree
  refine wpAny_bind (wpAny_field hz rfl (x := .none) rfl (wpAny_pure ?_))
  simp only [if_true]
  refine wpAny_bind (wpAny_rule ?_)
  refine wpAny_bind (wpAny_field hz rfl (x := .ref TO) rfl ?_)
  refine wpAny_bind (wpAny_setField_rec hz (by simp) fun h₁ hz₁ hs₁ => ?_)
  replace hz₁ : IsZip h₁ z TI TO .ellipsis := hz₁
  refine wpAny_bind ?_
  simp only [List.zipIdx_cons, List.zipIdx_nil, List.forIn_cons, List.forIn_nil]
  refine wpAny_bind (wpAny_bind (wpAny_onRaise ?_))
  show wpAny _ _ (Builtin.SmallTypes.nextOf (.ref i1) >>= _) _ _ _
  refine wpAny_bind (wpAny_nextOf_ascii_item (h1.extBut hs₁.extBut D.i1z) hx fun h₂ h1₂ hs₂ => wpAny_pure ?_)
  have hTO₂ : IsPair h₂ TO a b := hs₂.extBut _ _ D.TOi1 (hs₁.extBut _ _ D.TOz hTO)
  refine wpAny_bind (wpAny_seqItems hTO₂ rfl ?_)
  refine wpAny_bind (wpAny_updateSeq_pair hTO₂ fun h₃ hTO₃ hs₃ => ?_)
  replace hTO₃ : IsPair h₃ TO (.str ⟨#[c]⟩ s.toks) b := hTO₃
  refine wpAny_bind (wpAny_letGo (wpAny_pure ?_))
  refine wpAny_bind (wpAny_bind (wpAny_onRaise ?_))
  show wpAny _ _ (Builtin.SmallTypes.nextOf (.ref i2) >>= _) _ _ _
  refine wpAny_bind (wpAny_nextOf_ascii_item (((h2.extBut hs₁.extBut D.i2z).extBut hs₂.extBut D.i12.symm).extBut hs₃.extBut D.TOi2.symm) hy fun h₄ h2₄ hs₄ => wpAny_pure ?_)
  have hTO₄ : IsPair h₄ TO (.str ⟨#[c]⟩ s.toks) b := hs₄.extBut _ _ D.TOi2 hTO₃
  refine wpAny_bind (wpAny_seqItems hTO₄ rfl ?_)
  refine wpAny_bind (wpAny_updateSeq_pair hTO₄ fun h₅ hTO₅ hs₅ => ?_)
  replace hTO₅ : IsPair h₅ TO (.str ⟨#[c]⟩ s.toks) (.str ⟨#[d]⟩ (s.toks + 1)) := hTO₅
  refine wpAny_bind (wpAny_letGo (wpAny_pure (wpAny_pure ?_)))
  refine wpAny_bind (wpAny_seqItems hTO₅ rfl ?_)
  refine wpAny_bind (wpAny_newTuple ?_)
  have hsz : h₅.objs.size = s.heap.objs.size := by rw [hs₅.1, hs₄.1, hs₃.1, hs₂.1, hs₁.1]
  have hz₅ : IsZip h₅ z TI TO .ellipsis := hs₅.extBut _ _ D.TOz.symm (hs₄.extBut _ _ D.i2z.symm (hs₃.extBut _ _ D.TOz.symm (hs₂.extBut _ _ D.i1z.symm hz₁)))
  have hk₅ : ∀ c o, c ≠ z → c ≠ TO → c ≠ i1 → c ≠ i2 → s.heap.get? c = some o → h₅.get? c = some o := fun c o c1 c2 c3 c4 e =>
    hs₅.extBut _ _ c2 (hs₄.extBut _ _ c4 (hs₃.extBut _ _ c2 (hs₂.extBut _ _ c3 (hs₁.extBut _ _ c1 e))))
  have h1₅ : AIt h₅ i1 x t (k1 + 1) := ((h1₂.extBut hs₃.extBut D.TOi1.symm).extBut hs₄.extBut D.i12).extBut hs₅.extBut D.TOi1.symm
  have h2₅ : AIt h₅ i2 y u (k2 + 1) := h2₄.extBut hs₅.extBut D.TOi2.symm
  have hzlt : z < h₅.objs.size := Heap.lt_size hz₅
  show wpAny _ _ (Builtin.SmallTypes.ownedTupleHandOut (.ref z) (.ref h₅.objs.size) >>= _) _ _ _
  refine wpAny_bind ?_
  unfold Builtin.SmallTypes.ownedTupleHandOut
  have hz₆ : IsZip (h₅.push { cls := .type "tuple", data := .seq #[.str ⟨#[c]⟩ s.toks, .str ⟨#[d]⟩ (s.toks + 1)] }) z TI TO .ellipsis := Heap.get?_push_of_some _ hz₅
  refine wpAny_bind (wpAny_setField_rec hz₆ (by simp) fun h₇ hz₇ hs₇ => ?_)
  replace hz₇ : IsZip h₇ z TI TO (rawInt h₅.objs.size) := hz₇
  refine wpAny_setField_rec hz₇ (by simp) fun h₈ hz₈ hs₈ => ?_
  replace hz₈ : IsZip h₈ z TI TO (rawInt h₅.objs.size) := hz₈
  have up : ∀ c o, c ≠ z → h₅.get? c = some o → h₈.get? c = some o := fun c o c1 e => hs₈.extBut _ _ c1 (hs₇.extBut _ _ c1 (Heap.get?_push_of_some _ e))
  have hT₈ : IsPair h₈ h₅.objs.size (.str ⟨#[c]⟩ s.toks) (.str ⟨#[d]⟩ (s.toks + 1)) := hs₈.extBut _ _ (Nat.ne_of_gt hzlt) (hs₇.extBut _ _ (Nat.ne_of_gt hzlt) (Heap.get?_push_size _ rfl))
  have hz8 : h₈.objs.size = h₅.objs.size + 1 := by rw [hs₈.1, hs₇.1, Heap.size_push]
  rw [hsz] at hz₈ hT₈ hz8
  refine wpAny_pure ⟨_, rfl, ?_⟩
  show Q (.ref h₅.objs.size) _
  rw [hsz]
  exact hQ h₈ _ _ _ hz₈ (up _ _ D.TOz hTO₅) (h1₅.at fun o e => up _ o D.i1z e) (h2₅.at fun o e => up _ o D.i2z e) hT₈ hz8 fun c o c1 c2 c3 c4 e => up c o c1 (hk₅ c o c1 c2 c3 c4 e)

/-- the first text has ended -/
theorem zs_next_end {z TI TO i1 i2 : Addr} {k1 : Nat} {x : Str} {t : Tok} {a b : Value} {Q : Fin → Shared → Prop} (hh : A.handled = none) (D : Five z TI TO i1 i2)
    (hz : IsZip s.heap z TI TO .none) (hTI : IsPair s.heap TI (.ref i1) (.ref i2)) (_hTO : IsPair s.heap TO a b) (h1 : AIt s.heap i1 x t k1) (hend : x.cps[k1]? = none)
    (hE : ∀ h' e, (∀ c o, c ≠ z → c ≠ TO → c ≠ i1 → c ≠ i2 → s.heap.get? c = some o → h'.get? c = some o) → (∃ o, h'.get? e = some o ∧ o.cls = .type "StopIteration") → E (.ref e) { s with heap := h' }) :
    wpAny (model prog w) A (Builtin.«zip.__next__» ⟨[.ref z], []⟩) Q E s := by
  show wpAny _ _ (field (.ref z) 2 >>= _) _ _ _
  refine wpAny_bind (wpAny_field hz rfl (x := .bool false) rfl ?_)
  show wpAny _ _ (field (.ref z) 3 >>= _) _ _ _
  refine wpAny_bind (wpAny_field hz rfl (x := .ref TI) rfl ?_)
  refine wpAny_bind (wpAny_seqItems hTI rfl ?_)
  show wpAny _ _ (Builtin.SmallTypes.ownedTupleIsFree (.ref z) >>= _) _ _ _
  refine wpAny_bind ?_
  unfold Builtin.SmallTypes.ownedTupleIsFree
  refine wpAny_bind (wpAny_field hz rfl (x := .none) rfl (wpAny_pure ?_))
  simp only [if_true]
  refine wpAny_bind (wpAny_rule ?_)
  refine wpAny_bind (wpAny_field hz rfl (x := .ref TO) rfl ?_)
  refine wpAny_bind (wpAny_setField_rec hz (by simp) fun h₁ hz₁ hs₁ => ?_)
  replace hz₁ : IsZip h₁ z TI TO .ellipsis := hz₁
  refine wpAny_bind ?_
  simp only [List.zipIdx_cons, List.zipIdx_nil, List.forIn_cons, List.forIn_nil]
  refine wpAny_bind (wpAny_bind (wpAny_onRaise ?_))
  show wpAny _ _ (Builtin.SmallTypes.nextOf (.ref i1) >>= _) _ _ _
  refine wpAny_bind (wpAny_nextOf_ascii_end hh (h1.extBut hs₁.extBut D.i1z) hend fun h₂ e hs₂ he => ?_)
  obtain ⟨oe, hoe, hce⟩ := he
  have hz₂ : IsZip h₂ z TI TO .ellipsis := hs₂ _ _ D.i1z.symm hz₁
  have hez : e ≠ z := fun x => by subst x; rw [hz₂] at hoe; cases hoe; simp at hce
  exact wpAny_setField_rec hz₂ (by simp) fun h₃ _ hs₃ => hE h₃ e (fun c o c1 _ c3 _ x => hs₃.extBut _ _ c1 (hs₂ _ _ c3 (hs₁.extBut _ _ c1 x))) ⟨oe, hs₃.extBut _ _ hez hoe, hce⟩

theorem zs_pyNext_item {z TI TO i1 i2 : Addr} {k1 k2 c d : Nat} {x y : Str} {t u : Tok} {a b : Value} {Q : Option Value → Shared → Prop} (D : Five z TI TO i1 i2)
    (hz : IsZip s.heap z TI TO .none) (hTI : IsPair s.heap TI (.ref i1) (.ref i2)) (hTO : IsPair s.heap TO a b)
    (h1 : AIt s.heap i1 x t k1) (h2 : AIt s.heap i2 y u k2) (hx : x.cps[k1]? = some c) (hy : y.cps[k2]? = some d)
    (hQ : ∀ h' t1 t2 tk, IsZip h' z TI TO (rawInt s.heap.objs.size) → IsPair h' TO (.str ⟨#[c]⟩ t1) (.str ⟨#[d]⟩ t2) → AIt h' i1 x t (k1 + 1) → AIt h' i2 y u (k2 + 1) → IsPair h' s.heap.objs.size (.str ⟨#[c]⟩ t1) (.str ⟨#[d]⟩ t2) → h'.objs.size = s.heap.objs.size + 1 →
      (∀ c o, c ≠ z → c ≠ TO → c ≠ i1 → c ≠ i2 → s.heap.get? c = some o → h'.get? c = some o) → Q (some (.ref s.heap.objs.size)) { s with heap := h', toks := tk }) :
    wpAny (model prog w) A (pyNext (.ref z)) Q E s := by
  have hT : s.TypeIs (.ref z) "zip" := ⟨_, hz, rfl⟩
  unfold pyNext
  exact wpAny_bind (wpAny_attempt (wpAny_callSpecial?_slot (name := Str.ofString "__next__") hT F.slot_zip_next
    (wpAny_call_entry F.slot_zip_next hT F.entry_zip_next
      (zs_next_item D hz hTI hTO h1 h2 hx hy fun h' t1 t2 tk a1 a2 a3 a4 a5 a6 a7 => wpAny_pure (hQ h' t1 t2 tk a1 a2 a3 a4 a5 a6 a7)) (F.args_zip_next_1 _))))
theorem zs_pyNext_end {z TI TO i1 i2 : Addr} {k1 : Nat} {x : Str} {t : Tok} {a b : Value} {Q : Option Value → Shared → Prop} (hh : A.handled = none) (D : Five z TI TO i1 i2)
    (hz : IsZip s.heap z TI TO .none) (hTI : IsPair s.heap TI (.ref i1) (.ref i2)) (hTO : IsPair s.heap TO a b) (h1 : AIt s.heap i1 x t k1) (hend : x.cps[k1]? = none)
    (hQ : ∀ h', (∀ c o, c ≠ z → c ≠ TO → c ≠ i1 → c ≠ i2 → s.heap.get? c = some o → h'.get? c = some o) → Q none { s with heap := h' }) : wpAny (model prog w) A (pyNext (.ref z)) Q E s := by
  have hT : s.TypeIs (.ref z) "zip" := ⟨_, hz, rfl⟩
  unfold pyNext
  refine wpAny_bind (wpAny_attempt (wpAny_callSpecial?_slot (name := Str.ofString "__next__") hT F.slot_zip_next
    (wpAny_call_entry F.slot_zip_next hT F.entry_zip_next (zs_next_end hh D hz hTI hTO h1 hend fun h' e hk he => ?_) (F.args_zip_next_1 _))))
  obtain ⟨o, ho, hc⟩ := he
  refine wpAny_bind (wpAny_isInstance (T := "StopIteration") (b := true) ⟨o, ho, hc⟩ isSubtype_stop ?_)
  exact wpAny_pure (hQ _ hk)
end

/-- zip of two texts -/
abbrev zs1 (h : Heap) (x : Str) (t : Tok) : Heap := h.push { cls := .type "str_ascii_iterator", data := .fields #[.str x t, .int 0 0] }
abbrev zs2 (h : Heap) (x : Str) (t : Tok) (y : Str) (u : Tok) : Heap := (zs1 h x t).push { cls := .type "str_ascii_iterator", data := .fields #[.str y u, .int 0 0] }
abbrev zs3 (h : Heap) (x : Str) (t : Tok) (y : Str) (u : Tok) : Heap := (zs2 h x t y u).push { cls := .type "tuple", data := .seq #[.ref h.objs.size, .ref (zs1 h x t).objs.size] }
abbrev zs4 (h : Heap) (x : Str) (t : Tok) (y : Str) (u : Tok) : Heap := (zs3 h x t y u).push { cls := .type "tuple", data := .seq #[.none, .none] }
abbrev zs5 (h : Heap) (x : Str) (t : Tok) (y : Str) (u : Tok) : Heap := (zs4 h x t y u).push { cls := .type "zip", data := .fields #[.none, .bool false, .bool false, .ref (zs2 h x t y u).objs.size, .ref (zs3 h x t y u).objs.size] }

set_option maxHeartbeats 4000000 in
theorem meets_zip_strs (x y : Str) (t u : Tok) (hx : x.cps.all (· < 128) = true) (hy : y.cps.all (· < 128) = true) :
    Meets (Builtin.«zip.__new__» ⟨[.type "zip", .str x t, .str y u], []⟩) (fun _ R s => R (.ok (.ret (.ref (zs4 s.heap x t y u).objs.size))) { s with heap := zs5 s.heap x t y u }) :=
  .of_wp fun prog w A R s h => by
    obtain ⟨hp, g, d, tk, os⟩ := s
    have hsub := sub_zip
    wp_walk using wpAny_pyIter_ascii hx, wpAny_pyIter_ascii hy
    exact ⟨_, rfl, h⟩
section
variable {prog : Program} {w : World} {A : Around} {E : Value → Shared → Prop} {s : Shared}
theorem call_zip_strs {x y : Str} {t u : Tok} {Q : Value → Shared → Prop} (hx : x.cps.all (· < 128) = true) (hy : y.cps.all (· < 128) = true)
    (h : ∀ h', IsZip h' (s.heap.objs.size + 4) (s.heap.objs.size + 2) (s.heap.objs.size + 3) .none → IsPair h' (s.heap.objs.size + 2) (.ref s.heap.objs.size) (.ref (s.heap.objs.size + 1)) →
      IsPair h' (s.heap.objs.size + 3) .none .none → AIt h' s.heap.objs.size x t 0 → AIt h' (s.heap.objs.size + 1) y u 0 → h'.objs.size = s.heap.objs.size + 5 →
      (∀ c o, s.heap.get? c = some o → h'.get? c = some o) → Q (.ref (s.heap.objs.size + 4)) { s with heap := h' }) :
    wpAny (model prog w) A (call (.type "zip") [.str x t, .str y u]) Q E s := by
  refine callType_new F.called_zip (by decide) (F.typeCall_zip_2 _ _) (F.newCall_zip_2 _ _) (fun obj => F.args_object_init_3 obj _ _) F.entry_zip_new
    (meets_zip_strs x y t u hx hy) ?_
  have z1 : (zs1 s.heap x t).objs.size = s.heap.objs.size + 1 := Heap.size_push ..
  have z2 : (zs2 s.heap x t y u).objs.size = s.heap.objs.size + 2 := by rw [Heap.size_push, z1]
  have z3 : (zs3 s.heap x t y u).objs.size = s.heap.objs.size + 3 := by rw [Heap.size_push, z2]
  have z4 : (zs4 s.heap x t y u).objs.size = s.heap.objs.size + 4 := by rw [Heap.size_push, z3]
  have z5 : (zs5 s.heap x t y u).objs.size = s.heap.objs.size + 5 := by rw [Heap.size_push, z4]
  have g5 : (zs5 s.heap x t y u).get? (zs4 s.heap x t y u).objs.size = some _ := Heap.get?_push_size _ rfl
  have g4 : (zs5 s.heap x t y u).get? (zs3 s.heap x t y u).objs.size = some _ := Heap.get?_push_of_some _ (Heap.get?_push_size _ rfl)
  have g3 : (zs5 s.heap x t y u).get? (zs2 s.heap x t y u).objs.size = some _ := Heap.get?_push_of_some _ (Heap.get?_push_of_some _ (Heap.get?_push_size _ rfl))
  have g2 : (zs5 s.heap x t y u).get? (zs1 s.heap x t).objs.size = some _ := Heap.get?_push_of_some _ (Heap.get?_push_of_some _ (Heap.get?_push_of_some _ (Heap.get?_push_size _ rfl)))
  have g1 : (zs5 s.heap x t y u).get? s.heap.objs.size = some _ := Heap.get?_push_of_some _ (Heap.get?_push_of_some _ (Heap.get?_push_of_some _ (Heap.get?_push_of_some _ (Heap.get?_push_size _ rfl))))
  show _ ∧ _
  rw [z2, z3, z4] at g5
  rw [z1, z2] at g3
  rw [z3] at g4
  rw [z1] at g2
  rw [z4]
  exact ⟨⟨_, g5, rfl⟩, h _ g5 g3 g4 ⟨_, g1, rfl, rfl⟩ ⟨_, g2, rfl, rfl⟩ z5 fun c o x =>
    Heap.get?_push_of_some _ (Heap.get?_push_of_some _ (Heap.get?_push_of_some _ (Heap.get?_push_of_some _ (Heap.get?_push_of_some _ x))))⟩
end
end Mine
end
section
open PySem PySem.W PyProof.Rows PySem.Calls
set_option maxRecDepth 100000
set_option maxHeartbeats 2000000
namespace Mine
open LCg

/-- the zip's objects behind i pairs -/
structure ZSt (z TI TO i1 i2 : Addr) (x : Str) (t : Tok) (y : Str) (u : Tok) (i : Nat) (h : Heap) : Prop where
  hz : IsZip h z TI TO .none
  hTI : IsPair h TI (.ref i1) (.ref i2)
  hTO : ∃ a b, IsPair h TO a b
  h1 : AIt h i1 x t i
  h2 : AIt h i2 y u i
theorem ZSt.keep {z TI TO i1 i2 : Addr} {x : Str} {t : Tok} {y : Str} {u : Tok} {i : Nat} {h h' : Heap} (S₀ : ZSt z TI TO i1 i2 x t y u i h) (k : ∀ b ∈ [z, TI, TO, i1, i2], ∀ o, h.get? b = some o → h'.get? b = some o) : ZSt z TI TO i1 i2 x t y u i h' where
  hz := k z (by simp) _ S₀.hz
  hTI := k TI (by simp) _ S₀.hTI
  hTO := let ⟨a, b, e⟩ := S₀.hTO; ⟨a, b, k TO (by simp) _ e⟩
  h1 := S₀.h1.at fun o e => k i1 (by simp) o e
  h2 := S₀.h2.at fun o e => k i2 (by simp) o e

abbrev five (z TI TO i1 i2 : Addr) (oz oTI oTO o1 o2 : Obj) (r : List (Addr × Obj)) : List (Addr × Obj) := (z, oz) :: (TI, oTI) :: (TO, oTO) :: (i1, o1) :: (i2, o2) :: r

section
variable {prog : Program} {w : World} {A : Around} {E : Value → Shared → Prop} {s : Shared} {h₀ : Heap} {L₀ : Addr} {m : Str → Option Value} {env : Env}
theorem block_Z {elt iter : Expr} {a b : Str} {pa pb tp : Pos} {kk : Nat} {scope : Scope} {cl : List (Str × Addr)} {pos : Pos} {s₂ : Shared} {z TI TO i1 i2 : Addr} {x y : Str} {t u : Tok} {news : List (Addr × Obj)}
    {RR : Value → Addr → Result → Shared → Prop} (g : Nat → Nat → Str)
    (D5 : Five z TI TO i1 i2) (hxy : x.cps.size ≤ y.cps.size) (hsz : x.cps.size ≤ sizeLine) (hh : A.handled = none)
    (hcell : ∀ y ∈ scope.names, y.2 ≠ .cell) (hkind : scope.kind = .function) (ha : scope.names.lookup a = some .local) (hb : scope.names.lookup b = some .local) (hab : a ≠ b)
    (F : Fr h₀ L₀ s₂.heap m) (N : News h₀ L₀ s₂.heap news) (St : ZSt z TI TO i1 i2 x t y u 0 s₂.heap)
    (new5 : ∀ c ∈ [z, TI, TO, i1, i2], h₀.get? c = none ∧ c ≠ L₀) (off : ∀ p ∈ news, p.1 ∉ [z, TI, TO, i1, i2])
    (turn : ∀ c d t1 t2 oz oTI oTO o1 o2 C oC D m₂ ys h tk (E' : Value → Shared → Prop), (c, d) ∈ (L x).zip (L y) → NsObj oC m₂ → m₂ a = some (.str ⟨#[c]⟩ t1) → m₂ b = some (.str ⟨#[d]⟩ t2) → Fr h₀ L₀ h m →
      News h₀ L₀ h (five z TI TO i1 i2 oz oTI oTO o1 o2 ((C, oC) :: (D, lst ys) :: news)) →
      wpAny (model prog w) A (eval elt (compEnvC scope cl C env)) (fun r s₃ => ∃ h' tk' t', s₃ = { s₂ with heap := h', toks := tk' } ∧ Fr h₀ L₀ h' m ∧ News h₀ L₀ h' (five z TI TO i1 i2 oz oTI oTO o1 o2 ((C, oC) :: (D, lst ys) :: news)) ∧ r = .str (g c d) t') E' { s₂ with heap := h, toks := tk })
    (hRR : ∀ D C h tk m' ys, Fr h₀ L₀ h m → News h₀ L₀ h ((D, lst ys) :: news) → Off1 D news → h.Ns C m' → h₀.get? C = none → h₀.get? D = none → C ≠ L₀ → D ≠ L₀ → C ≠ D → (∀ p ∈ news, p.1 ≠ C) → StrsAre ys (((L x).zip (L y)).map fun p => g p.1 p.2) → RR (.ref D) C (.ok .next) { s₂ with heap := h, toks := tk }) :
    wpAny (model prog w) A (newList []) (fun acc s₃ => wpAny (model prog w) A (newFunctionEnv scope env.globals cl [] env.qual none .none (some env)) (fun cenv s₄ =>
      codeAny (model prog w) A (.compStart (.ListComp elt [⟨.Tuple [.Name a pa, .Name b pb] kk tp, iter, [], 0⟩] scope pos) 0 (.ref z) acc { cenv with scope := relabel scope env }) (RR acc cenv.locals) s₄) E s₃) E s₂ := by
  refine wpAny_newObj_type (wpAny_newFunctionEnv hcell (by intro y hy; simp at hy) (fun h₁ hns₁ hsb₁ => ?_) hkind)
  dsimp only at hns₁ hsb₁ ⊢
  generalize hH2 : s₂.heap.push { cls := .type "list", dict := none, data := .seq ([] : List Value).toArray } = H2 at hns₁ hsb₁ ⊢
  have hC : H2.objs.size = s₂.heap.objs.size + 1 := by rw [← hH2, Heap.size_push]
  have hDC : s₂.heap.objs.size ≠ H2.objs.size := by rw [hC]; exact Nat.ne_of_lt (Nat.lt_succ_self _)
  have below : ∀ b, b < s₂.heap.objs.size → b ≠ H2.objs.size ∧ b ≠ s₂.heap.objs.size := fun b hb => ⟨by rw [hC]; exact Nat.ne_of_lt (Nat.lt_succ_of_lt hb), Nat.ne_of_lt hb⟩
  have old : ∀ b o, s₂.heap.get? b = some o → h₁.get? b = some o := fun b o e => hsb₁.extBut b o (below b (Heap.lt_size e)).1 (Heap.get?_push_of_some _ (hH2 ▸ Heap.get?_push_of_some _ e))
  have hacc : h₁.get? s₂.heap.objs.size = some (lst []) := hsb₁.extBut _ _ hDC (Heap.get?_push_of_some _ (hH2 ▸ Heap.get?_push_size _ rfl))
  have fresh₀ : ∀ a, s₂.heap.objs.size ≤ a → h₀.get? a = none := fun a ha => by
    cases e : h₀.get? a with
    | none => rfl
    | some o' => exact absurd (Heap.lt_size (F.keep a o' e)) (Nat.not_lt.mpr ha)
  have hD₀ : h₀.get? s₂.heap.objs.size = none := fresh₀ _ (Nat.le_refl _)
  have hC₀ : h₀.get? H2.objs.size = none := fresh₀ _ (by rw [hC]; exact Nat.le_succ _)
  have hLlt : L₀ < s₂.heap.objs.size := F.ns.lt
  have hDL : s₂.heap.objs.size ≠ L₀ := Ne.symm (below L₀ hLlt).2
  have hCL : H2.objs.size ≠ L₀ := Ne.symm (below L₀ hLlt).1
  have lt5 : ∀ c ∈ [z, TI, TO, i1, i2], c < s₂.heap.objs.size := fun c hc => by
    obtain ⟨a', b', hTO⟩ := St.hTO
    obtain ⟨o1, e1, _⟩ := St.h1
    obtain ⟨o2, e2, _⟩ := St.h2
    simp only [List.mem_cons, List.not_mem_nil, or_false] at hc
    rcases hc with rfl | rfl | rfl | rfl | rfl
    · exact Heap.lt_size St.hz
    · exact Heap.lt_size St.hTI
    · exact Heap.lt_size hTO
    · exact Heap.lt_size e1
    · exact Heap.lt_size e2
  have offC : ∀ p ∈ news, p.1 ≠ H2.objs.size := fun p hp => (below _ (Heap.lt_size (N p hp).1)).1
  have offD : ∀ p ∈ news, p.1 ≠ s₂.heap.objs.size := fun p hp => (below _ (Heap.lt_size (N p hp).1)).2
  have hlen : ((L x).zip (L y)).length = x.cps.size := by
    rw [List.length_zip]
    simp only [L, Array.length_toList]
    omega
  have loop : ∀ s₃ : Shared, s₃ = { s₂ with heap := h₁, toks := s₂.toks + ([] : List (Str × Value)).length } →
      codeAny (model prog w) A (.compLoop (.ListComp elt [⟨.Tuple [.Name a pa, .Name b pb] kk tp, iter, [], 0⟩] scope pos) 0 (.ref z) (.ref s₂.heap.objs.size) (compEnvC scope cl H2.objs.size env))
        (RR (.ref s₂.heap.objs.size) H2.objs.size) s₃ := by
    rintro s₃ rfl
    refine LCp.codeAny_compLoop_pair
      (fun k s' => ∃ h' tk i ys m', s' = { s₂ with heap := h', toks := tk } ∧ i ≤ x.cps.size ∧ k = x.cps.size + 1 - i ∧ ys.length = i ∧ ZSt z TI TO i1 i2 x t y u i h' ∧ Fr h₀ L₀ h' m ∧ h'.Ns H2.objs.size m' ∧
        News h₀ L₀ h' ((s₂.heap.objs.size, lst ys) :: news) ∧ StrsAre ys ((((L x).zip (L y)).take i).map fun p => g p.1 p.2)) ?_ (x.cps.size + 1)
      ⟨h₁, _, 0, [], _, rfl, Nat.zero_le _, rfl, rfl, St.keep fun b _ o e => old b o e, F.keeps old, hns₁, fun p hp => ?_, .nil⟩
    · rintro k s' ⟨h', tk, i, ys, m', rfl, hi, rfl, hyl, hst', F', hn', N', hys⟩
      by_cases hlt : i < x.cps.size
      · have hx' : x.cps[i]? = some x.cps[i] := Array.getElem?_eq_getElem hlt
        have hy' : y.cps[i]? = some (y.cps[i]'(by omega)) := Array.getElem?_eq_getElem (by omega)
        generalize x.cps[i] = c at hx'
        generalize (y.cps[i]'(by omega)) = d at hy'
        have hzip : ((L x).zip (L y))[i]? = some (c, d) := by
          rw [List.getElem?_zip_eq_some]
          simp only [L, Array.getElem?_toList]
          exact ⟨hx', hy'⟩
        obtain ⟨a', b', hTO'⟩ := hst'.hTO
        refine zs_pyNext_item D5 hst'.hz hst'.hTI hTO' hst'.h1 hst'.h2 hx' hy' fun h₂ t1 t2 tk₂ z₂ to₂ i1₂ i2₂ pr₂ sz₂ hk₂ => ?_
        dsimp only at z₂ to₂ i1₂ i2₂ pr₂ sz₂ hk₂ ⊢
        have ltz : ∀ c ∈ [z, TI, TO, i1, i2], c < h'.objs.size := fun c hc => by
          obtain ⟨a', b', hTO⟩ := hst'.hTO
          obtain ⟨o1, e1, _⟩ := hst'.h1
          obtain ⟨o2, e2, _⟩ := hst'.h2
          simp only [List.mem_cons, List.not_mem_nil, or_false] at hc
          rcases hc with rfl | rfl | rfl | rfl | rfl
          · exact Heap.lt_size hst'.hz
          · exact Heap.lt_size hst'.hTI
          · exact Heap.lt_size hTO
          · exact Heap.lt_size e1
          · exact Heap.lt_size e2
        refine wpAny_letOwnedTupleGo_zip z₂ fun h₃ z₃ s₃ => ?_
        have hTne : h'.objs.size ≠ z := Nat.ne_of_gt (ltz z (by simp))
        have k23 : ∀ c o, c ≠ z → h₂.get? c = some o → h₃.get? c = some o := fun c o hc e => s₃.extBut c o hc e
        have kn : ∀ c o, c ∉ [z, TI, TO, i1, i2] → h'.get? c = some o → h₃.get? c = some o := fun c o hc e => by
          simp only [List.mem_cons, List.not_mem_nil, or_false, not_or] at hc
          exact k23 c o hc.1 (hk₂ c o hc.1 hc.2.2.1 hc.2.2.2.1 hc.2.2.2.2 e)
        have kTI : h₃.get? TI = _ := k23 _ _ D5.TIz (hk₂ _ _ D5.TIz D5.TITO D5.TIi1 D5.TIi2 hst'.hTI)
        have St₃ : ZSt z TI TO i1 i2 x t y u (i + 1) h₃ := ⟨z₃, kTI, ⟨_, _, k23 _ _ D5.TOz to₂⟩, i1₂.at fun o e => k23 _ o D5.i1z e, i2₂.at fun o e => k23 _ o D5.i2z e⟩
        have hCnot : H2.objs.size ∉ [z, TI, TO, i1, i2] := fun hm => by have h := lt5 _ hm; rw [hC] at h; exact Nat.lt_irrefl _ (Nat.lt_of_succ_lt h)
        have hDnot : s₂.heap.objs.size ∉ [z, TI, TO, i1, i2] := fun hm => Nat.lt_irrefl _ (lt5 _ hm)
        have hLnot : L₀ ∉ [z, TI, TO, i1, i2] := fun hm => (new5 _ hm).2 rfl
        have hn₃ : h₃.Ns H2.objs.size m' := hn'.at' fun o e => kn _ o hCnot e
        have prT : h₃.IsTuple h'.objs.size #[.str ⟨#[c]⟩ t1, .str ⟨#[d]⟩ t2] := ⟨_, k23 _ _ hTne pr₂, rfl, _, rfl⟩
        refine kcp_assign hh prT (lookup_relabel_local ha) (lookup_relabel_local hb) (by simp [compEnvC, relabel, hkind]) hn₃ fun h₄ tk₄ hn₄ hk₄ => ?_
        have hk₄' : ∀ c o, c ≠ H2.objs.size → h₃.get? c = some o → h₄.get? c = some o := fun c o hc e => hk₄ c o hc e
        have St₄ : ZSt z TI TO i1 i2 x t y u (i + 1) h₄ := St₃.keep fun b hb o e => hk₄' b o (fun q => hCnot (q ▸ hb)) e
        have F₄ : Fr h₀ L₀ h₄ m := ⟨F'.ns.at' fun o e => hk₄' _ o (Ne.symm hCL) (kn _ o hLnot e), fun b o e => hk₄' b o (fun q => by rw [q, hC₀] at e; cases e) (kn b o (fun hm => by rw [(new5 _ hm).1] at e; cases e) (F'.keep b o e)), F'.above⟩
        obtain ⟨oC, heC, hoC⟩ := ns_obj hn₄
        obtain ⟨a₄, b₄, hTO₄⟩ := St₄.hTO
        obtain ⟨o1, e1, r1⟩ := id St₄.h1
        obtain ⟨o2, e2, r2⟩ := id St₄.h2
        have N₄ : News h₀ L₀ h₄ (five z TI TO i1 i2 _ _ _ o1 o2 ((H2.objs.size, oC) :: (s₂.heap.objs.size, lst ys) :: news)) := fun p hp => by
          simp only [five, List.mem_cons] at hp
          rcases hp with rfl | rfl | rfl | rfl | rfl | rfl | rfl | hp
          · exact ⟨St₄.hz, (new5 z (by simp)).2, (new5 z (by simp)).1⟩
          · exact ⟨St₄.hTI, (new5 TI (by simp)).2, (new5 TI (by simp)).1⟩
          · exact ⟨hTO₄, (new5 TO (by simp)).2, (new5 TO (by simp)).1⟩
          · exact ⟨e1, (new5 i1 (by simp)).2, (new5 i1 (by simp)).1⟩
          · exact ⟨e2, (new5 i2 (by simp)).2, (new5 i2 (by simp)).1⟩
          · exact ⟨heC, hCL, hC₀⟩
          · exact ⟨hk₄' _ _ hDC (kn _ _ hDnot (N' (s₂.heap.objs.size, lst ys) List.mem_cons_self).1), hDL, hD₀⟩
          · have q := N' p (List.mem_cons_of_mem _ hp)
            exact ⟨hk₄' _ _ (offC p hp) (kn _ _ (off p hp) q.1), q.2⟩
        refine wpAny_mono (turn c d t1 t2 _ _ _ o1 o2 H2.objs.size oC s₂.heap.objs.size _ ys h₄ _ _ (List.mem_of_getElem? hzip) hoC (by simp [hab]) (by simp) F₄ N₄) (fun r s₅ h₅ => ?_) fun _ _ e => e
        obtain ⟨h₅, tk₅, t₅, rfl, F₅, N₅, rfl⟩ := h₅
        have St₅ : ZSt z TI TO i1 i2 x t y u (i + 1) h₅ := by
          refine ⟨(N₅ (z, _) (by simp [five])).1, (N₅ (TI, _) (by simp [five])).1, ⟨a₄, b₄, (N₅ (TO, _) (by simp [five])).1⟩, ⟨o1, (N₅ (i1, o1) (by simp [five])).1, r1⟩, ⟨o2, (N₅ (i2, o2) (by simp [five])).1, r2⟩⟩
        have zC := (N₅ (H2.objs.size, oC) (by simp [five])).1
        have zD := (N₅ (s₂.heap.objs.size, lst ys) (by simp [five])).1
        have Nn : ∀ p ∈ news, h₅.get? p.1 = some p.2 := fun p hp => (N₅ p (by simp [five, hp])).1
        refine append_at (hsz := by show ys.toArray.size ≤ sizeLine; rw [List.size_toArray, hyl]; exact Nat.le_trans hi hsz) zD fun h₆ hs₆ hD₆ => ?_
        refine ⟨x.cps.size + 1 - (i + 1), by omega, h₆, tk₅, i + 1, ys ++ [.str (g c d) t₅], _, rfl, hlt, rfl, by rw [List.length_append, List.length_singleton, hyl], St₅.keep fun b hb o e => hs₆.extBut b o (fun q => hDnot (q ▸ hb)) e,
          F₅.change hs₆ hDL hD₀, (hoC.ns zC).sameBut hs₆ (Ne.symm hDC), fun p hp => ?_, ?_⟩
        · rcases List.mem_cons.mp hp with rfl | hp
          · exact ⟨hD₆.trans (congrArg some (lst_snoc ys _)), hDL, hD₀⟩
          · exact ⟨hs₆.extBut _ _ (offD p hp) (Nn p hp), (N' p (List.mem_cons_of_mem _ hp)).2⟩
        · rw [List.take_add_one, hzip]
          simpa using kct_snoc hys
      · obtain rfl : i = x.cps.size := Nat.le_antisymm hi (Nat.not_lt.mp hlt)
        obtain ⟨a', b', hTO'⟩ := hst'.hTO
        refine zs_pyNext_end hh D5 hst'.hz hst'.hTI hTO' hst'.h1 (Array.getElem?_eq_none (Nat.le_refl _)) fun h₂ hk₂ => ?_
        have kn : ∀ c o, c ∉ [z, TI, TO, i1, i2] → h'.get? c = some o → h₂.get? c = some o := fun c o hc e => by
          simp only [List.mem_cons, List.not_mem_nil, or_false, not_or] at hc
          exact hk₂ c o hc.1 hc.2.2.1 hc.2.2.2.1 hc.2.2.2.2 e
        have hCnot : H2.objs.size ∉ [z, TI, TO, i1, i2] := fun hm => by have h := lt5 _ hm; rw [hC] at h; exact Nat.lt_irrefl _ (Nat.lt_of_succ_lt h)
        have hDnot : s₂.heap.objs.size ∉ [z, TI, TO, i1, i2] := fun hm => Nat.lt_irrefl _ (lt5 _ hm)
        have hLnot : L₀ ∉ [z, TI, TO, i1, i2] := fun hm => (new5 _ hm).2 rfl
        refine hRR _ _ h₂ tk _ ys ⟨F'.ns.at' fun o e => kn _ o hLnot e, fun b o e => kn b o (fun hm => by rw [(new5 _ hm).1] at e; cases e) (F'.keep b o e), F'.above⟩ (fun p hp => ?_) ?_ (hn'.at' fun o e => kn _ o hCnot e) hC₀ hD₀ hCL hDL (Ne.symm hDC) offC ?_
        · have q := N' p hp
          refine ⟨kn _ _ ?_ q.1, q.2⟩
          rcases List.mem_cons.mp hp with rfl | hp
          · exact hDnot
          · exact off p hp
        · clear hRR turn
          have key : ∀ l : List (Addr × Obj), (∀ p ∈ l, p.1 ≠ s₂.heap.objs.size) → Off1 s₂.heap.objs.size l := by
            intro l
            induction l with
            | nil => intro _; trivial
            | cons p r ih => intro hl; exact ⟨hl p List.mem_cons_self, ih fun q hq => hl q (List.mem_cons_of_mem _ hq)⟩
          exact key news offD
        · rw [← hlen, List.take_length] at hys
          exact hys
    · rcases List.mem_cons.mp hp with rfl | hp
      · exact ⟨hacc, hDL, hD₀⟩
      · exact ⟨old _ _ (N p hp).1, (N p hp).2⟩
  exact codeAny_compStart_list (loop _ rfl) (wpAny_pyIter_zip (old _ _ St.hz) (loop _ rfl))

def SrcZ (prog : Program) (w : World) (A : Around) (h₀ : Heap) (L₀ : Addr) (m : Str → Option Value) (env : Env) (elt : Expr) (a b : Str) (scope : Scope) (cl : List (Str × Addr)) (Fin : Shared → List Value → List (Addr × Obj) → Prop) (xv : Value) (s₁ : Shared) : Prop :=
  ∃ (g : Nat → Nat → Str) (z TI TO i1 i2 : Addr) (x : Str) (t : Tok) (y : Str) (u : Tok) (news : List (Addr × Obj)), xv = .ref z ∧ A.handled = none ∧ Five z TI TO i1 i2 ∧ x.cps.size ≤ y.cps.size ∧ x.cps.size ≤ sizeLine ∧ Fr h₀ L₀ s₁.heap m ∧ News h₀ L₀ s₁.heap news ∧
    ZSt z TI TO i1 i2 x t y u 0 s₁.heap ∧ (∀ c ∈ [z, TI, TO, i1, i2], h₀.get? c = none ∧ c ≠ L₀) ∧ (∀ p ∈ news, p.1 ∉ [z, TI, TO, i1, i2]) ∧
    (∀ c d t1 t2 oz oTI oTO o1 o2 C oC D m₂ ys h tk (E' : Value → Shared → Prop), (c, d) ∈ (L x).zip (L y) → NsObj oC m₂ → m₂ a = some (.str ⟨#[c]⟩ t1) → m₂ b = some (.str ⟨#[d]⟩ t2) → Fr h₀ L₀ h m →
      News h₀ L₀ h (five z TI TO i1 i2 oz oTI oTO o1 o2 ((C, oC) :: (D, lst ys) :: news)) →
      wpAny (model prog w) A (eval elt (compEnvC scope cl C env)) (fun r s₃ => ∃ h' tk' t', s₃ = { s₁ with heap := h', toks := tk' } ∧ Fr h₀ L₀ h' m ∧ News h₀ L₀ h' (five z TI TO i1 i2 oz oTI oTO o1 o2 ((C, oC) :: (D, lst ys) :: news)) ∧ r = .str (g c d) t') E' { s₁ with heap := h, toks := tk }) ∧
    ∀ ys, StrsAre ys (((L x).zip (L y)).map fun p => g p.1 p.2) → Fin s₁ ys news

theorem Assign_ListComp_Z {elt iter : Expr} {a b y : Str} {pa pb tp py : Pos} {kk : Nat} {scope : Scope} {cl : List (Str × Addr)} {pos spos : Pos} {Q : Flow → Shared → Prop} (_F₀ : Fr h₀ L₀ s.heap m) (hLe : env.locals = L₀)
    (hsw : swapsWith (.ListComp elt [⟨.Tuple [.Name a pa, .Name b pb] kk tp, iter, [], 0⟩] scope pos) (some (.Name y py)) spos.line env = pure true)
    (hclos : closureFor scope env = pure cl) (hcell : ∀ z ∈ scope.names, z.2 ≠ .cell) (hkind : scope.kind = .function)
    (hnames : ∀ z ∈ scope.names, z.2 = .local → scope.names.lookup z.1 = some .local) (ha : scope.names.lookup a = some .local) (hb : scope.names.lookup b = some .local) (hab : a ≠ b)
    (hy : env.kindOf y = some .local) (hp : (env.scope.kind == .class || (env.scope.kind == .module && env.locals != env.globals)) = false)
    (h : wpAny (model prog w) A (eval iter env) (SrcZ prog w A h₀ L₀ m env elt a b scope cl (fun s₂ => FinA h₀ L₀ m s₂ y Q)) E s)
    (hs : ∀ x, foldedSetIterable iter env x = pure x := by intro _; rfl) :
    wpAny (model prog w) A (exec (.Assign [.Name y py] (.ListComp elt [⟨.Tuple [.Name a pa, .Name b pb] kk tp, iter, [], 0⟩] scope pos) spos) env) Q E s := by
  subst hLe
  rw [exec_Assign_Name_used _ _ _ _ hsw]
  refine wpAny_bind (wpAny_standAt (wpAny_bind ?_))
  show wpAny _ A (do let _ ← comprehension (.ListComp elt [⟨.Tuple [.Name a pa, .Name b pb] kk tp, iter, [], 0⟩] scope pos) scope env _ (newList []) false (eval iter env) (some (assign (.Name y py) env))) _ _ s
  refine wpAny_bind (wpAny_mono (wpAny_comprehension_free (use := some (assign (.Name y py) env)) (Q := fun _ s' => Q .next s') rfl hs hclos hkind hnames
    (wpAny_mono h (fun xv s₁ h₁ => ?_) fun _ _ e => e)) (fun _ s' hq => wpAny_pure (wpAny_pure hq)) fun _ _ e => e)
  obtain ⟨g, z, TI, TO, i1, i2, x, t, y', u, news, rfl, hh, D5, hxy, hsz, F, N, St, new5, off, turn, fin⟩ := h₁
  refine wpAny_pyIter_zip St.hz ?_
  refine block_Z g D5 hxy hsz hh hcell hkind ha hb hab F N St new5 off turn ?_
  intro D C h' tk m' ys F' N' o1 hn hC₀ hD₀ hCL hDL hCD offC hys
  show wpAny _ A (assign (.Name y py) env (.ref D)) _ _ _
  refine wpAny_assign_Name (wpAny_storeName_local hy F'.ns (fun h₂ hn₂ hs₂ => ?_) hp)
  have hL₀ : h₀.get? env.locals = none := Heap.get?_none_of_le F'.above
  have F₂ : Fr h₀ env.locals h₂ (fun z => if z = y then some (.ref D) else m z) := ⟨hn₂, fun b o e => hs₂.extBut b o (fun q => by rw [q, hL₀] at e; cases e) (F'.keep b o e), F'.above⟩
  refine ⟨m', hn.sameBut hs₂ hCL, fun h'' hs'' => fin ys hys D h'' _ (F₂.change hs'' hCL hC₀) (fun p hp => ?_) o1⟩
  have z : h₂.get? p.1 = some p.2 := hs₂.extBut _ _ (N' p hp).2.1 (N' p hp).1
  refine ⟨hs''.extBut _ _ ?_ z, (N' p hp).2⟩
  rcases List.mem_cons.mp hp with rfl | hp
  · exact Ne.symm hCD
  · exact offC p hp

theorem zip_src {elt : Expr} {a b : Str} {scope : Scope} {cl : List (Str × Addr)} {Fin : Shared → List Value → List (Addr × Obj) → Prop} {x y : Str} {t u : Tok} {news : List (Addr × Obj)} (g : Nat → Nat → Str)
    (hx : x.cps.all (· < 128) = true) (hy : y.cps.all (· < 128) = true) (hxy : x.cps.size ≤ y.cps.size) (hsz : x.cps.size ≤ sizeLine) (hh : A.handled = none) (F : Fr h₀ L₀ s.heap m) (N : News h₀ L₀ s.heap news)
    (turn : ∀ z TI TO i1 i2 c d t1 t2 oz oTI oTO o1 o2 C oC D m₂ ys h tk (E' : Value → Shared → Prop), (c, d) ∈ (L x).zip (L y) → NsObj oC m₂ → m₂ a = some (.str ⟨#[c]⟩ t1) → m₂ b = some (.str ⟨#[d]⟩ t2) → Fr h₀ L₀ h m →
      News h₀ L₀ h (five z TI TO i1 i2 oz oTI oTO o1 o2 ((C, oC) :: (D, lst ys) :: news)) →
      wpAny (model prog w) A (eval elt (compEnvC scope cl C env)) (fun r s₃ => ∃ h' tk' t', s₃ = { s with heap := h', toks := tk' } ∧ Fr h₀ L₀ h' m ∧ News h₀ L₀ h' (five z TI TO i1 i2 oz oTI oTO o1 o2 ((C, oC) :: (D, lst ys) :: news)) ∧ r = .str (g c d) t') E' { s with heap := h, toks := tk })
    (fin : ∀ h' ys, StrsAre ys (((L x).zip (L y)).map fun p => g p.1 p.2) → Fin { s with heap := h' } ys news) :
    wpAny (model prog w) A (call (.type "zip") [.str x t, .str y u]) (SrcZ prog w A h₀ L₀ m env elt a b scope cl Fin) E s := by
  refine call_zip_strs hx hy fun h' hz hTI hTO h1 h2 _ hk => ?_
  have n4 : ∀ k : Nat, h₀.get? (s.heap.objs.size + k) = none ∧ s.heap.objs.size + k ≠ L₀ := fun k => by
    refine ⟨?_, fun q => ?_⟩
    · cases e : h₀.get? (s.heap.objs.size + k) with
      | none => rfl
      | some o' => exact absurd (Heap.lt_size (F.keep _ o' e)) (Nat.not_lt.mpr (Nat.le_add_right _ _))
    · have := F.ns.lt
      rw [← q] at this
      exact absurd this (Nat.not_lt.mpr (Nat.le_add_right _ _))
  have ne : ∀ j k : Nat, j ≠ k → s.heap.objs.size + j ≠ s.heap.objs.size + k := fun j k h q => h (Nat.add_left_cancel q)
  refine ⟨g, _, _, _, s.heap.objs.size + 0, _, x, t, y, u, news, rfl, hh, ⟨ne _ _ (by decide), ne _ _ (by decide), ne _ _ (by decide), ne _ _ (by decide), ne _ _ (by decide), ne _ _ (by decide), ne _ _ (by decide), ne _ _ (by decide), ne _ _ (by decide), ne _ _ (by decide)⟩,
    hxy, hsz, F.keeps hk, N.grown hk, ⟨hz, hTI, ⟨_, _, hTO⟩, h1, h2⟩, ?_, ?_, ?_, fin h'⟩
  · intro c hc
    simp only [List.mem_cons, List.not_mem_nil, or_false] at hc
    rcases hc with rfl | rfl | rfl | rfl | rfl
    · exact n4 4
    · exact n4 2
    · exact n4 3
    · exact n4 0
    · exact n4 1
  · intro p hp hm
    have hlt := Heap.lt_size (N p hp).1
    simp only [List.mem_cons, List.not_mem_nil, or_false] at hm
    rcases hm with q | q | q | q | q <;> (rw [q] at hlt; exact absurd hlt (Nat.not_lt.mpr (Nat.le_add_right _ _)))
  · exact fun c d t1 t2 oz oTI oTO o1 o2 C oC D m₂ ys h tk E' => turn _ _ _ _ _ c d t1 t2 oz oTI oTO o1 o2 C oC D m₂ ys h tk E'
end
end Mine
end
section
open PySem PySem.W PyProof.Rows
set_option maxRecDepth 100000
set_option maxHeartbeats 8000000
namespace Mine
open LCg PySem.Spec PyProof.V
theorem sl_canLayAll0 : ∀ ns : List Str, (∀ y ∈ ns, PyData.strOk y = true) → PyData.canLayAll0 (ns.map PyData.str) = true
  | [], _ => rfl
  | y :: r, h => by simp [PyData.canLayAll0, PyData.canLay0, h y (List.mem_cons_self ..), sl_canLayAll0 r fun z hz => h z (List.mem_cons_of_mem _ hz)]
theorem sl_depthAll : ∀ ns : List Str, PyData.depthAll (ns.map PyData.str) = 0
  | [] => rfl
  | _ :: r => by simp [PyData.depthAll, PyData.depth, sl_depthAll r]
theorem sl_shaped (ns : List Str) (h : ∀ y ∈ ns, PyData.strOk y = true) : SeqAt.shaped (.list (ns.map PyData.str)) = true := by
  simp [SeqAt.shaped, PyData.canLay0, PyData.depth, sl_canLayAll0 ns h, sl_depthAll]
theorem sl_same (ns : List Str) : PySem.Spec.same (.list (ns.map PyData.str)) (.list (([] : List Str).map PyData.str)) = decide (ns = []) := by
  cases ns with
  | nil => simp [PySem.Spec.same, PySem.Spec.sameAll]
  | cons a r => simp [PySem.Spec.same, PySem.Spec.sameAll]
theorem eq_strs_nil {prog : Program} {w : World} {A : Around} {E : Value → Shared → Prop} {s : Shared} {a b : Addr} {xs : List Value} {ns : List Str} {Q : Value → Shared → Prop} (ha : s.heap.IsList a xs.toArray) (hb : s.heap.IsList b #[]) (hi : CarriedAll xs (ns.map PyData.str)) (hk : ∀ y ∈ ns, PyData.strOk y = true) (hu : A.units + 64 < cLine) (h : Q (.bool (decide (ns = []))) s) :
    wpAny (model prog w) A (compareOp .Eq (.ref a) (.ref b)) Q E s :=
  eq_dataH_same (reads_newData ha hi) (reads_newData (ys := []) hb (ds := ([] : List Str).map PyData.str) .nil) (sl_shaped _ hk) (sl_shaped _ fun _ h => nomatch h) hu (SeqAt.noMix_of_shape (.list .str) rfl _ _ (list_map_has fun _ => rfl) (list_map_has fun _ => rfl)) (by rw [sl_same]; exact h)
def Same (h₀ : Heap) (L₀ : Addr) (m : Str → Option Value) (news : List (Addr × Obj)) (s s₂ : Shared) : Prop := ∃ h k, s₂ = { s with heap := h, toks := k } ∧ Fr h₀ L₀ h m ∧ News h₀ L₀ h news
def Tested (b b' : Bool) (P : Prop) : Prop := b' = b ∧ P
theorem test_once {M : Model} {A : Around} {env : Env} {test : Expr} {body orelse : List Stmt} {pos : Pos} {Q : Flow → Shared → Prop} {E : Value → Shared → Prop} {h₀ : Heap} {L₀ : Addr} {m : Str → Option Value} {news : List (Addr × Obj)} {s : Shared}
    (b : Bool) (_F : Fr h₀ L₀ s.heap m) (_N : News h₀ L₀ s.heap news) (ht : wpAny M A (isTrue test env (eval test env)) (fun b' s₂ => Tested b b' (Same h₀ L₀ m news s s₂)) E s)
    (hr : ∀ h₂ k₂, Fr h₀ L₀ h₂ m → News h₀ L₀ h₂ news → if b = true then wpAny M A (execs body env) Q E { s with heap := h₂, toks := k₂ } else wpAny M A (execs orelse env) Q E { s with heap := h₂, toks := k₂ }) :
    wpAny M A (exec (.If test body orelse pos) env) Q E s := by
  refine wpAny_If (wpAny_mono ht (fun b' s₂ hb => ?_) fun _ _ x => x)
  obtain ⟨rfl, h₂, k₂, rfl, F₂, N₂⟩ := hb
  exact hr h₂ k₂ F₂ N₂

theorem rest_R {prog : Program} {w : World} {A : Around} {h₀ : Heap} {L₀ : Addr} {m : Str → Option Value} {env : Env} {elt : Expr} {x : Str} {scope : Scope} {cl : List (Str × Addr)} {s : Shared} {S₀ : List (Addr × Obj) → Prop} {Fin : List Value → List (Addr × Obj) → Prop} {news : List (Addr × Obj)} {n : Nat} (g : Nat → Str)
    (turn : ∀ (i : Nat) t I oI C oC D m₂ ys h tk (E' : Value → Shared → Prop), i < n → NsObj oC m₂ → m₂ x = some (.int (i : Int) t) → Fr h₀ L₀ h m → News h₀ L₀ h ((I, oI) :: (C, oC) :: (D, lst ys) :: news) → Off3 I C D news → ((@Ne Nat I C) ∧ (@Ne Nat I D) ∧ (@Ne Nat C D)) →
      wpAny (model prog w) A (eval elt (compEnvC scope cl C env)) (CompEnd h₀ L₀ m { s with heap := h, toks := tk } I oI C oC D (lst ys) S₀ (ElS news (g i))) E' { s with heap := h, toks := tk })
    (fin : ∀ ys, StrsAre ys ((List.range n).map g) → Fin ys news) : CompRest prog w A h₀ L₀ m env elt x scope cl s S₀ (fun i v => ∃ t, v = .int ((0 : Int) + (i : Int)) t) Fin n 0 [] news := by
  have key : ∀ (j i : Nat) (ys : List Value), i + j = n → StrsAre ys ((List.range i).map g) → CompRest prog w A h₀ L₀ m env elt x scope cl s S₀ (fun i v => ∃ t, v = .int ((0 : Int) + (i : Int)) t) Fin j i ys news := by
    intro j
    induction j with
    | zero =>
      intro i ys hi hy
      have e : i = n := by omega
      subst e
      exact CompRest.zero (fin ys hy)
    | succ j ih =>
      intro i ys hi hy
      refine CompRest.succ ?_
      intro v' I oI C oC D m₂ h tk E' hv hC hx F N off ne
      obtain ⟨t, hv'⟩ := hv
      rw [Int.zero_add] at hv'
      rw [hv'] at hx
      refine wpAny_mono (turn i t I oI C oC D m₂ ys h tk E' (by omega) hC hx F N off ne) (fun y s₂ hq => ?_) fun _ _ e => e
      obtain ⟨h', tk', nw, e, F', N', off', hS, hn, t', hy'⟩ := hq
      rw [hn] at N' off' hS
      refine ⟨h', tk', news, e, F', N', off', hS, ?_⟩
      rw [hy']
      refine ih (i + 1) _ (by omega) ?_
      rw [List.range_succ, List.map_append]
      simpa using kct_snoc hy
  exact key n 0 [] (by omega) .nil
theorem ascii_ok {v : Str} (hv : v.cps.all (· < 128) = true) (p : Str → Bool) : ∀ y ∈ List.filter p (signs v), PyData.strOk y = true := by
  intro y hy
  obtain ⟨hy, _⟩ := List.mem_filter.mp hy
  unfold signs at hy
  obtain ⟨c, hc, rfl⟩ := List.mem_map.mp hy
  rw [← Array.all_toList, List.all_eq_true] at hv
  have := of_decide_eq_true (hv c hc)
  simp [PyData.strOk]
  omega
theorem all_a {v : Str} : (List.filter (fun a => a != Str.ofString "a") (signs v) = []) ↔ (L v).all (fun c => c == 97) = true := by
  unfold signs L
  induction v.cps.toList with
  | nil => simp
  | cons c r ih =>
    rw [List.map_cons, List.filter_cons, List.all_cons]
    have hb : ((⟨#[c]⟩ : Str) != Str.ofString "a") = !decide (c = 97) := by
      show (!((⟨#[c]⟩ : Str) == ⟨#[97]⟩)) = _
      rw [beq1]
    rw [hb]
    by_cases h : c = 97
    · simp [h, ih]
    · simp [h]
theorem nil_iff {v : Str} : (v != Str.ofString "") = true ↔ L v ≠ [] := by
  rw [bne_iff_ne]
  constructor
  · intro h e
    exact h (eq_of_L (e.trans rfl))
  · intro h e
    exact h (by rw [e]; rfl)
theorem told_test {v : Str} (h : (v != Str.ofString "") = true) : decide (List.filter (fun a => a != Str.ofString "a") (signs v) = []) = decide (L v ≠ [] ∧ (L v).all (fun c => c == 97) = true) := by
  have := nil_iff.mp h
  rw [decide_eq_decide, all_a]
  simp [this]
theorem told_test0 {v : Str} (h : (v != Str.ofString "") = false) : false = decide (L v ≠ [] ∧ (L v).all (fun c => c == 97) = true) := by
  have : ¬ L v ≠ [] := fun x => by rw [nil_iff.mpr x] at h; cases h
  simp only [ne_eq, Decidable.not_not] at this
  simp [this]
theorem small_q {q : Nat} (h : q ≤ 4) : Builtin.Range.small 0 (q : Int) 1 = true := by
  match q, h with
  | 0, _ | 1, _ | 2, _ | 3, _ | 4, _ => decide
theorem size_q (q : Nat) : Builtin.Range.rangeSize 0 (q : Int) 1 = ((q : Nat) : Int) := by
  have := rangeSize_nat 0 q
  simpa using this
theorem asc_sp {v : Str} (h : v.cps.all (· < 128) = true) : (Str.ofString " " ++ v).cps.all (· < 128) = true := by
  rw [Str.cps_append, Array.all_append, h, Bool.and_true]
  decide +kernel
theorem size_sp (v : Str) : v.cps.size ≤ (Str.ofString " " ++ v).cps.size := by
  rw [Str.cps_append, Array.size_append]
  omega
theorem size_v {v : Str} (h : v.length ≤ 16) : v.cps.size ≤ sizeLine := by
  rw [sizeLine_eq]
  have : v.cps.size ≤ 16 := h
  omega
theorem marks_flat (q : Nat) : (((List.range q).map fun i => S (markL i)).map L).flatten = (marksL q).flatten := by
  rw [List.map_map]
  unfold marksL
  congr 1
theorem marks_len (q : Nat) (hq : q ≤ 4) : (marksL q).flatten.length ≤ 76 := by
  match q, hq with
  | 0, _ | 1, _ | 2, _ | 3, _ | 4, _ => decide
theorem amp_len (e : Nat) : (ampL e).length = 4 * e := by
  unfold ampL
  rw [List.length_flatten, List.map_replicate, List.sum_replicate_nat]
  simp only [List.length_cons, List.length_nil]
  omega
theorem sign_len (q e c d : Nat) (hq : q ≤ 4) (he : e ≤ 4) : (signL q e c d).length ≤ 161 := by
  have h1 := mark_len q hq
  have h2 := amp_len e
  have h3 := amp_len (e - 1)
  unfold signL
  repeat' split
  all_goals (try simp only [List.length_cons, List.length_nil, List.length_append, List.cons_append])
  all_goals first | omega | decide
theorem bodyL_len (q e : Nat) (hq : q ≤ 4) (he : e ≤ 4) : ∀ (l : List Nat) (d : Nat), (bodyL q e d l).length ≤ 161 * l.length
  | [], _ => by simp [bodyL]
  | c :: r, d => by
    have h1 := sign_len q e c d hq he
    have h2 := bodyL_len q e hq he r c
    unfold bodyL
    rw [List.length_append, List.length_cons]
    omega
theorem body_len (v : Str) (q e : Nat) (hq : q ≤ 4) (he : e ≤ 4) (hv : v.length ≤ 16) : (bodyL q e 32 (L v)).length ≤ 2576 := by
  have := bodyL_len q e hq he (L v) 32
  rw [len_L] at this
  omega
theorem body_zip (q e : Nat) : ∀ (l : List Nat) (d : Nat), ((((l.zip (d :: l)).map fun p => S (signL q e p.1 p.2)).map L).flatten) = bodyL q e d l
  | [], _ => rfl
  | c :: r, d => by
    have ih := body_zip q e r c
    rw [List.zip_cons_cons, List.map_cons, List.map_cons, List.flatten_cons, ih, L_S (signL q e c d)]
    rfl
theorem body_flat (v : Str) (q e : Nat) : (((((L v).zip (L (Str.ofString " " ++ v))).map fun p => S (signL q e p.1 p.2)).map L).flatten) = bodyL q e 32 (L v) := by
  rw [L_app]
  exact body_zip q e (L v) 32
theorem len_S (l : List Nat) : (S l).length = l.length := by rw [← len_L, L_S l]
theorem S_app (a b : List Nat) : S a ++ S b = S (a ++ b) := by
  apply eq_of_L
  rw [L_app, L_S a, L_S b, L_S (a ++ b)]
theorem strs_app : ∀ {vs : List Value} {ys : List Str} {v : Value} {y : Str}, StrsAre vs ys → StrsAre [v] [y] → StrsAre (vs ++ [v]) (ys ++ [y])
  | _, _, _, _, .nil, h => h
  | _, _, _, _, .cons z u r, h => .cons z u (strs_app r h)
theorem strs_rev : ∀ {vs : List Value} {ys : List Str}, StrsAre vs ys → StrsAre vs.reverse ys.reverse
  | _, _, .nil => .nil
  | _, _, .cons y t r => by
    rw [List.reverse_cons, List.reverse_cons]
    exact strs_app (strs_rev r) (.cons y t .nil)
theorem strs_len : ∀ {vs : List Value} {ys : List Str}, StrsAre vs ys → vs.length = ys.length
  | _, _, .nil => rfl
  | _, _, .cons y t r => congrArg (· + 1) (strs_len r)
theorem strs_size {vs : List Value} {q : Nat} {g : Nat → Str} (h : StrsAre vs ((List.range q).map g)) (hq : q ≤ 4) : vs.toArray.size ≤ sizeLine := by
  rw [List.size_toArray, strs_len h, List.length_map, List.length_range, sizeLine_eq]
  omega
theorem marks_rev (q : Nat) : (((List.range q).map fun i => S (markL i)).reverse.map L).flatten = (marksL q).reverse.flatten := by
  rw [List.map_reverse, List.map_map]
  unfold marksL
  congr 2
theorem marks_rlen (q : Nat) (hq : q ≤ 4) : (marksL q).reverse.flatten.length ≤ 76 := by
  match q, hq with
  | 0, _ | 1, _ | 2, _ | 3, _ | 4, _ => decide
theorem told_else {v : Str} {q e : Nat} (h : ¬ (L v ≠ [] ∧ (L v).all (fun c => c == 97) = true)) : S ((marksL q).flatten ++ bodyL q e 32 (L v) ++ (marksL q).reverse.flatten) = S (toldL (L v) q e) := by
  unfold toldL
  rw [if_neg h]
theorem told_all {v : Str} {q e : Nat} (h : L v ≠ [] ∧ (L v).all (fun c => c == 97) = true) : v = S (toldL (L v) q e) := by
  unfold toldL
  rw [if_pos h, S_L]
section
local macro_rules | `(tactic| walk_at "call ref") => `(tactic| ((with_reducible show wpAny _ _ (call (Value.ref 61) _) _ _ _); refine Hold.to ?_))
local macro_rules | `(tactic| walk_at "call ref") => `(tactic| ((with_reducible show wpAny _ _ (call (Value.ref 68) _) _ _ _); refine Hold.to ?_))
local macro_rules | `(tactic| walk_at "CompSrc") => `(tactic| (k_here; refine Hold.to ?_))
local macro_rules | `(tactic| walk_at "subscriptTail Name Slice ref ref") => `(tactic| (k_here; refine Hold.to ?_))
local macro_rules | `(tactic| walk_at "exec If") => `(tactic| (k_here; refine Hold.to ?_))
local macro_rules | `(tactic| walk_at "exec Assign cons ListComp") => `(tactic| (k_here; refine Hold.to ?_))
theorem told_c {w : World} {mean : ExcName → Option Value} {mg mb : Str → Option Value} (v : Str) (q e : Nat) (hq : q ≤ 4) (he : e ≤ 4) (hv : v.length ≤ 16) (hasc : v.cps.all (· < 128) = true) (news : List (Addr × Obj)) (t1 t2 t3 : Tok) :
   ClK w mean mg mb 73 news 12 [.str v t1, .int q t2, .int e t3] (fun t => .str (S (toldL (L v) q e)) t) := by
  unfold ClK
  w_top off
  k_fill
  dsimp only [CbRet]
  intros
  rename_i hret
  have cbI : CbIn 73 := CbIn.mk
  refine wpAny_call ?_
  k_dflt (refine' code_defC ?k1 ?k2 ?k3 ?k4 ?k5 ?kA ?kF ?kK ?k6 ?k7 ?k8 ?k9 ?kB ?kD ?_ ?c2 ?c3 ?c4; (case kA => exact rfl); (case kF => exact rfl); (case kK => assumption); (case k1 => k_asm); (case k2 => k_asm); (case k3 => k_asm); (case k4 => k_asm); (case k5 => k_asm); (case k6 => k_is); (case k7 => k_is); (case k8 => ktr_room); (case k9 => exact BindsTo.of_eq rfl); (case kB => exact rfl); (case kD => decide +kernel); (case c2 => exact rfl); (case c3 => exact rfl); (case c4 => exact rfl); k_whole; intro g' L' h' tk' cells' FG' F' N' Y' B' X' T' l1; k_cells Y'; (try simp only [List.cons_append, List.nil_append] at N'); (try dsimp only); (try k_fold))
  k_steps
  unfold Hold
  refine test_once (decide (L v ≠ [] ∧ (L v).all (fun c => c == 97) = true)) F' N' ?test ?rest
  case test =>
    k_steps
    · refine' eq_strs_nil ?ea ?eb ?ec (ascii_ok hasc _) ?eu ?_
      case ec => k_asm
      case ea => exact News.isList (by k_asm) (by k_mem)
      case eb => exact News.isList (by k_asm) (by k_mem)
      case eu => ktr_units
      k_steps
      · rename_i hf
        exact ⟨(decide_eq_true hf).symm.trans (told_test (by k_asm)), _, _, rfl, by k_asm, cb_drop (by k_asm) fun p hp => List.mem_cons_of_mem _ (List.mem_cons_of_mem _ hp)⟩
      · rename_i hf
        exact ⟨(decide_eq_false hf).symm.trans (told_test (by k_asm)), _, _, rfl, by k_asm, cb_drop (by k_asm) fun p hp => List.mem_cons_of_mem _ (List.mem_cons_of_mem _ hp)⟩
    · exact ⟨told_test0 (by k_asm), _, _, rfl, by k_asm, by k_asm⟩
  case rest =>
    intro h₂ k₂ F₂ N₂
    by_cases hb : L v ≠ [] ∧ (L v).all (fun c => c == 97) = true
    · rw [if_pos (decide_eq_true hb)]
      k_steps
      exact cb_retS hret (told_all hb) (by k_asm) (cb_drop (by k_asm) fun p hp => List.mem_cons_of_mem _ (List.mem_cons_of_mem _ hp))
    · rw [if_neg (by rw [decide_eq_false hb]; exact Bool.false_ne_true)]
      k_steps
      unfold Hold
      k_dflt (refine LCg.Assign_ListComp_U (F₀ := by k_asm) (by rfl) (by with_unfolding_all rfl) (by with_unfolding_all rfl) (by decide) (by rfl) (by decide) (by rfl) (by rfl) (by rfl) ?_)
      k_steps
      unfold Hold
      refine' LCg.CompSrc.range ?r1 ?r2 ?r3 ?r4 ?r5 ?r6 ?r7 ?_
      case r1 => rfl
      case r2 => k_asm
      case r3 => k_asm
      case r4 => assumption
      case r5 => exact small_q hq
      case r6 => exact size_q q
      case r7 => rw [sizeLine_eq]; omega
      intro g₃
      refine rest_R (fun i => S (markL i)) ?turn ?fin
      case turn =>
        intro i t' I oI C oC D m₂ ys h tk E' hi hC hx F' N' off ne
        k_steps
        unfold Hold
        refine' mark_c i (by omega) _ _ _ _ _ _ _ _ _ _ _ _ _ _ _ _ _ _ _ ?k1 ?k2 ?k3 ?k4 ?k5 ?kK ?kd ?ku ?kR
        case k1 => k_asm
        case k2 => k_asm
        case k3 => k_asm
        case k4 => k_asm
        case k5 => k_asm
        case kK => rfl
        case kd => ktr_room
        case ku => ktr_units
        case kR =>
          intro t9 h9 tk9 F9 N9
          exact CompEnd.intro F9 N9 _ (fun p hp => hp) off trivial ⟨rfl, _, rfl⟩
      case fin =>
        intro ys hys D h tk F' N' off
        k_steps
        unfold Hold
        k_dflt (refine Assign_ListComp_Z (by k_asm) (by rfl) (by with_unfolding_all rfl) (by with_unfolding_all rfl) (by decide) (by rfl) (by decide) (by rfl) (by rfl) (by decide) (by rfl) (by rfl) ?_)
        k_steps
        refine zip_src (fun c d => S (signL q e c d)) hasc (asc_sp hasc) (size_sp v) (size_v hv) rfl (by k_asm) (by k_asm) ?zturn ?zfin
        case zturn =>
          intro z TI TO i1 i2 c d s1 s2 oz oTI oTO o1 o2 C oC D₂ m₂ ys₂ h tk E' hcd hC hxa hxb F' N'
          dsimp only [five] at N'
          k_steps
          unfold Hold
          refine' sign_c c d q e hq he _ _ _ _ _ _ _ _ _ _ _ _ _ _ _ _ _ _ _ _ _ _ ?k1 ?k2 ?k3 ?k4 ?k5 ?kK ?kd ?ku ?kR
          case k1 => k_asm
          case k2 => k_asm
          case k3 => k_asm
          case k4 => k_asm
          case k5 => k_asm
          case kK => rfl
          case kd => ktr_room
          case ku => ktr_units
          case kR =>
            intro t9 h9 tk9 F9 N9
            exact ⟨h9, tk9, t9, rfl, F9, N9, rfl⟩
        case zfin =>
          intro h' ys₂ hys₂ D₂ h tk F' N' off₂
          have lm := marks_len q hq
          have lb := body_len v q e hq he hv
          k_steps
          refine join_S (tl := (List.range q).map fun i => S (markL i)) (lst_list N' (by k_mem)) hys ?_ fun t4 k4 => ?_
          · rw [marks_flat]; omega
          rw [marks_flat]
          k_steps
          refine join_S (lst_list N' (by k_mem)) hys₂ ?_ fun t5 k5 => ?_
          · rw [body_flat]; omega
          rw [body_flat]
          k_steps
          refine KOpn.add ?ha1 fun t6 k6 hb6 => ?_
          case ha1 => rw [len_S, len_S]; omega
          rw [S_app] at hb6 ⊢
          k_steps
          unfold Hold
          k_dflt (refine' krv_lit ?vF ?vN ?vl ?vk ?ve ?_ ?vs ?vt ?vz)
          case vF => k_asm
          case vN => k_asm
          case vl => exact lst_list N' (by k_mem)
          case vk => exact IsPart.int _ _
          case ve => exact rfl
          case vs => with_unfolding_all rfl
          case vt => kmk_pure
          case vz => exact strs_size hys hq
          intro D₃ h₃ F₃ N₃ l₃
          k_steps
          refine join_S (tl := ((List.range q).map fun i => S (markL i)).reverse) (News.isList N₃ (by k_mem)) (strs_rev hys) ?_ fun t7 k7 => ?_
          · rw [marks_rev]; have := marks_rlen q hq; omega
          rw [marks_rev]
          k_steps
          refine KOpn.add ?ha2 fun t8 k8 hb8 => ?_
          case ha2 =>
            have := marks_rlen q hq
            rw [len_S, len_S, List.length_append]; omega
          rw [S_app]
          k_steps
          exact cb_retS hret (told_else hb) (by k_asm) (cb_drop (by k_asm) fun p hp => by simp [hp])
end
end Mine
end
section
open PySem PySem.W PyProof.Rows
set_option maxRecDepth 100000
namespace Mine
/-! the plain law: quoting and escaping of the told text -/
def alph : List Nat := [10, 13, 38, 60, 39, 62, 97]
theorem mem_alph {c : Nat} (h : c ∈ alph) : c = 10 ∨ c = 13 ∨ c = 38 ∨ c = 60 ∨ c = 39 ∨ c = 62 ∨ c = 97 := by
  simpa [alph] using h

theorem put_ne {c : Nat} {z : List Nat} {k : Nat} (h : k ≠ c) : put c z k = [k] := by unfold put; rw [if_neg h]
theorem put_eq {c : Nat} {z : List Nat} : put c z c = z := by unfold put; rw [if_pos rfl]
theorem flat_flat (f : Nat → List Nat) (ls : List (List Nat)) : ls.flatten.flatMap f = (ls.map (·.flatMap f)).flatten := by
  induction ls with
  | nil => rfl
  | cons a r ih => rw [List.flatten_cons, List.flatMap_append, ih, List.map_cons, List.flatten_cons]

theorem marks_succ (q : Nat) : marksL (q + 1) = [39] :: (marksL q).map (·.flatMap rq) := by
  unfold marksL
  rw [List.range_succ_eq_map, List.map_cons, List.map_map, List.map_map]
  rfl
theorem amp_rq (e : Nat) : (ampL e).flatMap rq = ampL e := by
  unfold rq
  apply put_free
  unfold ampL
  intro h
  rw [List.mem_flatten] at h
  obtain ⟨l, hl, hc⟩ := h
  rw [(List.mem_replicate.mp hl).2] at hc
  revert hc
  decide
theorem sign_rq (q e c d : Nat) : (signL q e c d).flatMap rq = signL (q + 1) e c d := by
  unfold signL
  split
  · split
    · rfl
    · rfl
  · split
    · rw [List.flatMap_cons, amp_rq]; rfl
    · split
      · rw [List.cons_append, List.flatMap_cons, List.flatMap_append, amp_rq]
        split <;> rfl
      · split
        · rfl
        · rename_i h
          simp [rq, put_ne h]
theorem body_rq (q e : Nat) : ∀ (l : List Nat) (d : Nat), (bodyL q e d l).flatMap rq = bodyL (q + 1) e d l
  | [], _ => rfl
  | c :: r, d => by
    unfold bodyL
    rw [List.flatMap_append, sign_rq, body_rq q e r c]
theorem told_rq (l : List Nat) (q e : Nat) : 39 :: ((marksL q).flatten ++ bodyL q e 32 l ++ (marksL q).reverse.flatten).flatMap rq ++ [39] = (marksL (q + 1)).flatten ++ bodyL (q + 1) e 32 l ++ (marksL (q + 1)).reverse.flatten := by
  rw [marks_succ, List.flatMap_append, List.flatMap_append, body_rq, flat_flat, flat_flat, List.reverse_cons, List.flatten_append, List.map_reverse]
  simp

theorem uns_97 : unsU 97 = false := by decide +kernel
theorem uns_39 : unsU 39 = true := by decide +kernel
theorem uns_10 : unsU 10 = true := by decide +kernel
theorem uns_13 : unsU 13 = true := by decide +kernel
theorem uns_38 : unsU 38 = true := by decide +kernel
theorem uns_60 : unsU 60 = true := by decide +kernel
theorem uns_62 : unsU 62 = true := by decide +kernel
theorem sign_uns {e c d : Nat} (hc : c ∈ alph) (h : c ≠ 97) (hd : d ≠ 13) : ∃ k ∈ signL 0 e c d, unsU k = true := by
  rcases mem_alph hc with rfl | rfl | rfl | rfl | rfl | rfl | rfl
  · refine ⟨10, ?_, uns_10⟩
    unfold signL
    by_cases he : 0 < e <;> simp [he, hd]
  · by_cases he : 0 < e
    · refine ⟨10, ?_, uns_10⟩
      simp [signL, he]
    · refine ⟨13, ?_, uns_13⟩
      simp [signL, he]
  · exact ⟨38, by simp [signL], uns_38⟩
  · by_cases he : 0 < e
    · refine ⟨38, ?_, uns_38⟩
      simp [signL, he]
    · refine ⟨60, ?_, uns_60⟩
      simp [signL, he]
  · exact ⟨39, by simp [signL, markL], uns_39⟩
  · by_cases he : 0 < e
    · refine ⟨38, ?_, uns_38⟩
      simp [signL, he]
    · refine ⟨62, ?_, uns_62⟩
      simp [signL, he]
  · exact absurd rfl h
theorem body_uns (e : Nat) : ∀ (l : List Nat) (d : Nat), (∀ c ∈ l, c ∈ alph) → d ≠ 13 → (∃ c ∈ l, c ≠ 97) → ∃ k ∈ bodyL 0 e d l, unsU k = true
  | [], _, _, _, h => by obtain ⟨c, hc, _⟩ := h; cases hc
  | c :: r, d, ha, hd, h => by
    unfold bodyL
    by_cases h97 : c = 97
    · have h' : ∃ c ∈ r, c ≠ 97 := by
        obtain ⟨k, hk, hne⟩ := h
        rcases List.mem_cons.mp hk with rfl | hk
        · exact absurd h97 hne
        · exact ⟨k, hk, hne⟩
      obtain ⟨k, hk, hu⟩ := body_uns e r c (fun x hx => ha x (List.mem_cons_of_mem _ hx)) (by omega) h'
      exact ⟨k, List.mem_append.mpr (.inr hk), hu⟩
    · obtain ⟨k, hk, hu⟩ := sign_uns (e := e) (ha c (List.mem_cons_self ..)) h97 hd
      exact ⟨k, List.mem_append.mpr (.inl hk), hu⟩

theorem quote_told {l : List Nat} (ha : ∀ c ∈ l, c ∈ alph) (q e : Nat) : quoteL (toldL l q e) = toldL l (q + 1) e := by
  by_cases hall : l ≠ [] ∧ l.all (fun c => c == 97) = true
  · unfold toldL
    rw [if_pos hall, if_pos hall]
    unfold quoteL
    rw [if_neg hall.1, if_pos]
    rw [List.all_eq_true] at hall ⊢
    intro c hc
    have : c = 97 := by simpa using hall.2 c hc
    rw [this, uns_97]; rfl
  · have e1 : toldL l (q + 1) e = (marksL (q + 1)).flatten ++ bodyL (q + 1) e 32 l ++ (marksL (q + 1)).reverse.flatten := by unfold toldL; rw [if_neg hall]
    rw [e1, ← told_rq]
    unfold toldL
    rw [if_neg hall]
    generalize hT : (marksL q).flatten ++ bodyL q e 32 l ++ (marksL q).reverse.flatten = T
    unfold quoteL
    by_cases hn : T = []
    · rw [if_pos hn, hn]; rfl
    · rw [if_neg hn, if_neg]
      intro hs
      rw [List.all_eq_true] at hs
      have hno : ¬ ∃ k ∈ T, unsU k = true := by
        rintro ⟨k, hk, hu⟩
        have := hs k hk
        rw [hu] at this
        cases this
      apply hno
      cases q with
      | succ q =>
        refine ⟨39, ?_, uns_39⟩
        rw [← hT, marks_succ]
        simp
      | zero =>
        have hM : marksL 0 = [] := rfl
        rw [hM] at hT
        simp only [List.flatten_nil, List.nil_append, List.reverse_nil, List.append_nil] at hT
        have hl : l ≠ [] := by
          rintro rfl
          exact hn hT.symm
        have hex : ∃ c ∈ l, c ≠ 97 := by
          apply Classical.byContradiction
          intro hx
          apply hall
          refine ⟨hl, ?_⟩
          rw [List.all_eq_true]
          intro c hc
          apply Classical.byContradiction
          intro h
          exact hx ⟨c, hc, by simpa using h⟩
        rw [← hT]
        exact body_uns e l 32 ha (by decide) hex

theorem told_00 {l : List Nat} : toldL l 0 0 = l := by
  unfold toldL
  split
  · rfl
  · have hM : marksL 0 = [] := rfl
    rw [hM]
    simp only [List.flatten_nil, List.nil_append, List.reverse_nil, List.append_nil]
    have key : ∀ (l : List Nat) (d : Nat), bodyL 0 0 d l = l := by
      intro l
      induction l with
      | nil => intro d; rfl
      | cons c r ih =>
        intro d
        unfold bodyL
        rw [ih]
        have : signL 0 0 c d = [c] := by
          unfold signL
          by_cases h1 : c = 38
          · simp [h1, ampL]
          · by_cases h2 : c = 39
            · simp [h2, markL]
            · simp [h1, h2]
        rw [this]; rfl
    exact key l 32
end Mine
end
section
open PySem PySem.W PyProof.Rows
set_option maxRecDepth 100000
namespace Mine
/-! escaping of the told text -/
def nl (l : List Nat) : List Nat := (rp2 13 10 [10] l).flatMap (put 13 [10])
def nlP : Nat → List Nat → List Nat
  | _, [] => []
  | d, c :: r => (if c = 13 then [10] else if c = 10 ∧ d = 13 then [] else [c]) ++ nlP c r
theorem nl_nil : nl [] = [] := rfl
theorem nl_one (c : Nat) : nl [c] = put 13 [10] c := by simp [nl, rp2]
theorem nl_crlf (r : List Nat) : nl (13 :: 10 :: r) = 10 :: nl r := by
  unfold nl
  rw [rp2_yes]
  simp [put]
theorem nl_cons {c d : Nat} {r : List Nat} (h : ¬ (c = 13 ∧ d = 10)) : nl (c :: d :: r) = put 13 [10] c ++ nl (d :: r) := by
  unfold nl
  rw [show rp2 13 10 [10] (c :: d :: r) = c :: rp2 13 10 [10] (d :: r) from if_neg h, List.flatMap_cons]
theorem put13 {c d : Nat} (h : ¬ (c = 10 ∧ d = 13)) : (if c = 13 then [10] else if c = 10 ∧ d = 13 then [] else [c]) = put 13 [10] c := by
  unfold put
  rw [if_neg h]
theorem nl_eq : ∀ (n : Nat) (l : List Nat) (d : Nat), l.length ≤ n → (d = 13 → l.head? ≠ some 10) → nl l = nlP d l
  | _, [], _, _, _ => rfl
  | _, [c], d, _, h => by
    rw [nl_one]
    unfold nlP
    rw [put13 (fun x => h x.2 (by simp [x.1]))]
    simp [nlP]
  | 0, _ :: _ :: _, _, hn, _ => by simp at hn
  | n + 1, c :: k :: r, d, hn, h => by
    have hn' : (k :: r).length ≤ n := by simp at hn ⊢; omega
    by_cases hck : c = 13 ∧ k = 10
    · obtain ⟨rfl, rfl⟩ := hck
      rw [nl_crlf]
      have ih := nl_eq n r 10 (by simp at hn'; omega) (fun x => by simp at x)
      simp [nlP, ih]
    · rw [nl_cons hck]
      have ih := nl_eq n (k :: r) c hn' (fun hc hk => hck ⟨hc, by simpa using hk⟩)
      rw [ih]
      show _ = (if c = 13 then [10] else if c = 10 ∧ d = 13 then [] else [c]) ++ nlP c (k :: r)
      rw [put13 (fun x => h x.2 (by simp [x.1]))]
theorem nl_is (l : List Nat) : nl l = nlP 32 l := nl_eq l.length l 32 (Nat.le_refl _) (fun h => by simp at h)
theorem nlP_no : ∀ (l : List Nat) (d : Nat), d ≠ 13 → (∀ c ∈ l, c ≠ 13) → nlP d l = l
  | [], _, _, _ => rfl
  | c :: r, d, hd, h => by
    unfold nlP
    rw [nlP_no r c (h c (List.mem_cons_self ..)) fun x hx => h x (List.mem_cons_of_mem _ hx), if_neg (h c (List.mem_cons_self ..)), if_neg (fun x => hd x.2)]
    rfl
/-- in front of a text stand signs that are no line ends -/
theorem nlP_app : ∀ (a b : List Nat) (d : Nat), (∀ c ∈ a, c ≠ 13 ∧ c ≠ 10) → (d ≠ 13 ∨ a ≠ []) → ∃ x, x ≠ 13 ∧ nlP d (a ++ b) = a ++ nlP x b
  | [], b, d, _, h => ⟨d, by rcases h with h | h; exact h; exact absurd rfl h, rfl⟩
  | c :: r, b, d, h, _ => by
    have hc := h c (List.mem_cons_self ..)
    obtain ⟨x, hx, e⟩ := nlP_app r b c (fun k hk => h k (List.mem_cons_of_mem _ hk)) (.inl hc.1)
    refine ⟨x, hx, ?_⟩
    show (if c = 13 then [10] else if c = 10 ∧ d = 13 then [] else [c]) ++ nlP c (r ++ b) = _
    rw [e, if_neg hc.1, if_neg (fun x => hc.2 x.1)]
    rfl

def ent (l : List Nat) : List Nat := ((l.flatMap (put 38 [38, 97, 109, 112, 59])).flatMap (put 60 [38, 108, 116, 59])).flatMap (put 62 [38, 103, 116, 59])
theorem esc_is (l : List Nat) : escL l = ent (nl l) := rfl
theorem ent_app (a b : List Nat) : ent (a ++ b) = ent a ++ ent b := by
  unfold ent
  rw [List.flatMap_append, List.flatMap_append, List.flatMap_append]
theorem ent_free {l : List Nat} (h : ∀ c ∈ l, c ≠ 38 ∧ c ≠ 60 ∧ c ≠ 62) : ent l = l := by
  unfold ent
  rw [put_free 38 _ l (fun m => (h _ m).1 rfl), put_free 60 _ l (fun m => (h _ m).2.1 rfl), put_free 62 _ l (fun m => (h _ m).2.2 rfl)]
theorem ent_amp : ent [38] = [38, 97, 109, 112, 59] := by decide
theorem ent_lt : ent [60] = [38, 108, 116, 59] := by decide
theorem ent_gt : ent [62] = [38, 103, 116, 59] := by decide
theorem ent_nil : ent [] = [] := rfl

theorem mark_mem' : ∀ (n : Nat), ∀ c ∈ markL n, c = 39 ∨ c = 34
  | 0, c, h => by simp [markL] at h; exact .inl h
  | n + 1, c, h => by
    unfold markL at h
    rw [List.mem_flatMap] at h
    obtain ⟨k, hk, hc⟩ := h
    have := mark_mem' n k hk
    unfold rq put at hc
    split at hc
    · simp at hc
      omega
    · simp at hc
      omega
theorem marks_mem {q c : Nat} (h : c ∈ (marksL q).flatten) : c = 39 ∨ c = 34 := by
  rw [List.mem_flatten] at h
  obtain ⟨l, hl, hc⟩ := h
  unfold marksL at hl
  obtain ⟨i, _, rfl⟩ := List.mem_map.mp hl
  exact mark_mem' i c hc
theorem marks_memr {q c : Nat} (h : c ∈ (marksL q).reverse.flatten) : c = 39 ∨ c = 34 := by
  rw [List.mem_flatten] at h
  obtain ⟨l, hl, hc⟩ := h
  exact marks_mem (q := q) (List.mem_flatten.mpr ⟨l, List.mem_reverse.mp hl, hc⟩)
theorem mark_ne (n : Nat) : markL n ≠ [] := by
  induction n with
  | zero => simp [markL]
  | succ n ih =>
    unfold markL
    cases h : markL n with
    | nil => exact absurd h ih
    | cons c r =>
      rw [List.flatMap_cons]
      unfold rq put
      split <;> simp
theorem amp_mem {e c : Nat} (h : c ∈ ampL e) : c = 97 ∨ c = 109 ∨ c = 112 ∨ c = 59 := by
  unfold ampL at h
  rw [List.mem_flatten] at h
  obtain ⟨l, hl, hc⟩ := h
  rw [(List.mem_replicate.mp hl).2] at hc
  simpa using hc
theorem amp_succ (e : Nat) : ampL (e + 1) = [97, 109, 112, 59] ++ ampL e := by
  unfold ampL
  rw [List.replicate_succ, List.flatten_cons]
theorem ent_ampL (e : Nat) : ent (ampL e) = ampL e := ent_free fun c hc => by have := amp_mem hc; omega
theorem ent_mark (q : Nat) : ent (markL q) = markL q := ent_free fun c hc => by have := mark_mem' q c hc; omega
theorem ent_cons (c : Nat) (l : List Nat) : ent (c :: l) = ent [c] ++ ent l := by rw [← ent_app]; rfl

theorem sL_nl {q e c d : Nat} (h : c = 13 ∨ c = 10) (he : 0 < e) : signL q e c d = if c = 10 ∧ d = 13 then [] else [10] := by
  unfold signL
  rw [if_pos ⟨h, he⟩]
theorem sL_amp {q e d : Nat} : signL q e 38 d = 38 :: ampL e := by simp [signL]
theorem sL_lg {q e c d : Nat} (h : c = 60 ∨ c = 62) (he : 0 < e) : signL q e c d = 38 :: ampL (e - 1) ++ (if c = 60 then [108, 116, 59] else [103, 116, 59]) := by
  unfold signL
  rw [if_neg (by omega), if_neg (by omega), if_pos ⟨h, he⟩]
theorem sL_mark {q e d : Nat} : signL q e 39 d = markL q := by simp [signL]
theorem sL_self {q e c d : Nat} (h1 : ¬ ((c = 13 ∨ c = 10) ∧ 0 < e)) (h2 : c ≠ 38) (h3 : ¬ ((c = 60 ∨ c = 62) ∧ 0 < e)) (h4 : c ≠ 39) : signL q e c d = [c] := by
  unfold signL
  rw [if_neg h1, if_neg h2, if_neg h3, if_neg h4]
/-- one more escaping where there was one -/
theorem sign_ent {q e c d : Nat} (he : 0 < e) : ent (signL q e c d) = signL q (e + 1) c d := by
  by_cases h1 : c = 13 ∨ c = 10
  · rw [sL_nl h1 he, sL_nl h1 (by omega)]
    split
    · rfl
    · rfl
  · by_cases h2 : c = 38
    · subst h2
      rw [sL_amp, sL_amp, ent_cons, ent_amp, ent_ampL, amp_succ]; rfl
    · by_cases h3 : c = 60 ∨ c = 62
      · rw [sL_lg h3 he, sL_lg h3 (by omega), List.cons_append, ent_cons, ent_amp, ent_app, ent_ampL]
        have e1 : e + 1 - 1 = (e - 1) + 1 := by omega
        rw [e1, amp_succ]
        split <;> rfl
      · by_cases h4 : c = 39
        · subst h4
          rw [sL_mark, sL_mark, ent_mark]
        · rw [sL_self (by omega) h2 (by omega) h4, sL_self (by omega) h2 (by omega) h4]
          exact ent_free fun k hk => by simp at hk; omega
theorem body_ent {q e : Nat} (he : 0 < e) : ∀ (l : List Nat) (d : Nat), ent (bodyL q e d l) = bodyL q (e + 1) d l
  | [], _ => rfl
  | c :: r, d => by
    unfold bodyL
    rw [ent_app, sign_ent he, body_ent he r c]
theorem sign_no13 {q e c d k : Nat} (he : 0 < e) (h : k ∈ signL q e c d) : k ≠ 13 := by
  unfold signL at h
  by_cases h1 : c = 13 ∨ c = 10
  · rw [if_pos ⟨h1, he⟩] at h
    split at h
    · cases h
    · simp at h; omega
  · rw [if_neg (fun x => h1 x.1)] at h
    split at h
    · rcases List.mem_cons.mp h with rfl | h
      · decide
      · have := amp_mem h; omega
    · split at h
      · rw [List.cons_append] at h
        rcases List.mem_cons.mp h with rfl | h
        · decide
        · rcases List.mem_append.mp h with h | h
          · have := amp_mem h; omega
          · split at h <;> (simp at h; omega)
      · split at h
        · have := mark_mem' q k h; omega
        · simp at h; omega
theorem body_no13 {q e : Nat} (he : 0 < e) : ∀ (l : List Nat) (d : Nat), ∀ k ∈ bodyL q e d l, k ≠ 13
  | [], _, _, h => by cases h
  | c :: r, d, k, h => by
    unfold bodyL at h
    rcases List.mem_append.mp h with h | h
    · exact sign_no13 he h
    · exact body_no13 he r c k h

/-- the first escaping's line ends -/
def signN (q c d : Nat) : List Nat := if c = 13 then [10] else if c = 10 ∧ d = 13 then [] else if c = 39 then markL q else [c]
def bodyN (q : Nat) : Nat → List Nat → List Nat
  | _, [] => []
  | d, c :: r => signN q c d ++ bodyN q c r
theorem sign_0 (q c d : Nat) : signL q 0 c d = if c = 39 then markL q else [c] := by
  unfold signL
  by_cases h1 : c = 38
  · simp [h1, ampL]
  · simp [h1]
theorem body_nl (q : Nat) (R : List Nat) (hR : ∀ c ∈ R, c ≠ 13 ∧ c ≠ 10) : ∀ (l : List Nat) (d x : Nat), (x = 13 ↔ d = 13) → nlP x (bodyL q 0 d l ++ R) = bodyN q d l ++ R
  | [], d, x, h => by
    show nlP x R = R
    cases R with
    | nil => rfl
    | cons c r =>
      have hc := hR c (List.mem_cons_self ..)
      unfold nlP
      rw [if_neg hc.1, if_neg (fun y => hc.2 y.1), nlP_no r c hc.1 fun k hk => (hR k (List.mem_cons_of_mem _ hk)).1]
      rfl
  | c :: r, d, x, h => by
    unfold bodyL bodyN
    rw [sign_0]
    by_cases h39 : c = 39
    · rw [if_pos h39, List.append_assoc]
      obtain ⟨y, hy, e⟩ := nlP_app (markL q) (bodyL q 0 c r ++ R) x (fun k hk => by have := mark_mem' q k hk; omega) (.inr (mark_ne q))
      rw [e, body_nl q R hR r c y (by omega)]
      unfold signN
      rw [if_neg (by omega), if_neg (by omega), if_pos h39, List.append_assoc]
    · rw [if_neg h39, List.append_assoc, List.singleton_append]
      unfold nlP
      rw [body_nl q R hR r c c Iff.rfl]
      unfold signN
      rw [if_neg h39, List.append_assoc]
      congr 1
      simp only [h]
theorem signN_ent {q c d : Nat} : ent (signN q c d) = signL q 1 c d := by
  by_cases h1 : c = 13 ∨ c = 10
  · rw [sL_nl h1 (by omega)]
    unfold signN
    rcases h1 with rfl | rfl
    · rfl
    · by_cases h3 : d = 13
      · subst h3; rfl
      · rw [if_neg (by decide), if_neg (fun x => h3 x.2), if_neg (by decide), if_neg (fun x => h3 x.2)]
        rfl
  · have eN : signN q c d = if c = 39 then markL q else [c] := by
      unfold signN
      rw [if_neg (fun x => h1 (.inl x)), if_neg (fun x => h1 (.inr x.1))]
    rw [eN]
    by_cases h2 : c = 38
    · subst h2; rw [sL_amp]; rfl
    · by_cases h3 : c = 60 ∨ c = 62
      · rw [sL_lg h3 (by omega)]
        rcases h3 with rfl | rfl <;> rfl
      · by_cases h4 : c = 39
        · subst h4
          rw [sL_mark, if_pos rfl, ent_mark]
        · rw [sL_self (by omega) h2 (by omega) h4, if_neg h4]
          exact ent_free fun k hk => by simp at hk; omega
theorem bodyN_ent (q : Nat) : ∀ (l : List Nat) (d : Nat), ent (bodyN q d l) = bodyL q 1 d l
  | [], _ => rfl
  | c :: r, d => by
    unfold bodyN bodyL
    rw [ent_app, signN_ent, bodyN_ent q r c]

theorem esc_told (l : List Nat) (q e : Nat) : escL (toldL l q e) = toldL l q (e + 1) := by
  rw [esc_is]
  by_cases hall : l ≠ [] ∧ l.all (fun c => c == 97) = true
  · unfold toldL
    rw [if_pos hall, if_pos hall]
    have h97 : ∀ c ∈ l, c = 97 := fun c hc => by
      have := hall.2
      rw [List.all_eq_true] at this
      simpa using this c hc
    rw [nl_is, nlP_no l 32 (by decide) fun c hc => by have := h97 c hc; omega]
    exact ent_free fun c hc => by have := h97 c hc; omega
  · unfold toldL
    rw [if_neg hall, if_neg hall, nl_is]
    have eM : ent (marksL q).flatten = (marksL q).flatten := ent_free fun c hc => by have := marks_mem hc; omega
    have eR : ent (marksL q).reverse.flatten = (marksL q).reverse.flatten := ent_free fun c hc => by have := marks_memr hc; omega
    by_cases he : 0 < e
    · rw [nlP_no _ 32 (by decide), ent_app, ent_app, eM, eR, body_ent he]
      intro c hc
      rcases List.mem_append.mp hc with hc | hc
      · rcases List.mem_append.mp hc with hc | hc
        · have := marks_mem hc; omega
        · exact body_no13 he l 32 c hc
      · have := marks_memr hc; omega
    · have e0 : e = 0 := by omega
      subst e0
      rw [List.append_assoc]
      obtain ⟨x, hx, ex⟩ := nlP_app (marksL q).flatten (bodyL q 0 32 l ++ (marksL q).reverse.flatten) 32 (fun k hk => by have := marks_mem hk; omega) (.inl (by decide))
      rw [ex, body_nl q _ (fun c hc => by have := marks_memr hc; omega) l 32 x (by constructor <;> intro h <;> omega), ent_app, ent_app, eM, eR, bodyN_ent, List.append_assoc]
end Mine
end
section
open PySem PySem.W PyProof.Rows
set_option maxRecDepth 100000
namespace Mine
/-- the signs that a told text may bear -/
def okS : List Nat := [10, 13, 34, 38, 39, 59, 60, 62, 97, 103, 108, 109, 112, 116]
theorem ok_ctl : ∀ c ∈ okS, ctlU c = false := by decide +kernel
theorem amp_ok {e k : Nat} (h : k ∈ ampL e) : k ∈ okS := by
  rcases amp_mem h with rfl | rfl | rfl | rfl <;> decide
theorem sign_ok {q e c d : Nat} (hc : c ∈ alph) : ∀ k ∈ signL q e c d, k ∈ okS := by
  intro k hk
  by_cases h1 : (c = 13 ∨ c = 10) ∧ 0 < e
  · rw [sL_nl h1.1 h1.2] at hk
    split at hk
    · cases hk
    · simp at hk; subst hk; decide
  · by_cases h2 : c = 38
    · subst h2
      rw [sL_amp] at hk
      rcases List.mem_cons.mp hk with rfl | hk
      · decide
      · exact amp_ok hk
    · by_cases h3 : (c = 60 ∨ c = 62) ∧ 0 < e
      · rw [sL_lg h3.1 h3.2, List.cons_append] at hk
        rcases List.mem_cons.mp hk with rfl | hk
        · decide
        · rcases List.mem_append.mp hk with hk | hk
          · exact amp_ok hk
          · split at hk
            · simp at hk; rcases hk with rfl | rfl | rfl <;> decide
            · simp at hk; rcases hk with rfl | rfl | rfl <;> decide
      · by_cases h4 : c = 39
        · subst h4
          rw [sL_mark] at hk
          rcases mark_mem' q k hk with rfl | rfl <;> decide
        · rw [sL_self h1 h2 h3 h4] at hk
          simp at hk
          subst hk
          rcases mem_alph hc with rfl | rfl | rfl | rfl | rfl | rfl | rfl <;> decide
theorem body_ok {q e : Nat} : ∀ (l : List Nat) (d : Nat), (∀ c ∈ l, c ∈ alph) → ∀ k ∈ bodyL q e d l, k ∈ okS
  | [], _, _, _, h => by cases h
  | c :: r, d, ha, k, h => by
    unfold bodyL at h
    rcases List.mem_append.mp h with h | h
    · exact sign_ok (ha c (List.mem_cons_self ..)) k h
    · exact body_ok r c (fun x hx => ha x (List.mem_cons_of_mem _ hx)) k h
theorem told_ok {l : List Nat} (ha : ∀ c ∈ l, c ∈ alph) (q e : Nat) : (toldL l q e).all (fun c => !ctlU c) = true := by
  rw [List.all_eq_true]
  intro c hc
  have hk : c ∈ okS := by
    unfold toldL at hc
    split at hc
    · rcases mem_alph (ha c hc) with rfl | rfl | rfl | rfl | rfl | rfl | rfl <;> decide
    · rcases List.mem_append.mp hc with hc | hc
      · rcases List.mem_append.mp hc with hc | hc
        · rcases marks_mem hc with rfl | rfl <;> decide
        · exact body_ok l 32 ha c hc
      · rcases marks_memr hc with rfl | rfl <;> decide
  rw [ok_ctl c hk]; rfl
theorem amp_len' (e : Nat) : (ampL e).length = 4 * e := by
  unfold ampL
  rw [List.length_flatten, List.map_replicate, List.sum_replicate_nat]
  simp only [List.length_cons, List.length_nil]
  omega
theorem mark_len3 (n : Nat) (hn : n ≤ 3) : (markL n).length ≤ 53 := by
  match n, hn with
  | 0, _ | 1, _ | 2, _ | 3, _ => decide
theorem marks_len3 (q : Nat) (hq : q ≤ 3) : (marksL q).flatten.length ≤ 23 ∧ (marksL q).reverse.flatten.length ≤ 23 := by
  match q, hq with
  | 0, _ | 1, _ | 2, _ | 3, _ => decide
theorem sign_len3 (q e c d : Nat) (hq : q ≤ 3) (he : e ≤ 3) : (signL q e c d).length ≤ 53 := by
  have h1 := mark_len3 q hq
  have h2 := amp_len' e
  have h3 := amp_len' (e - 1)
  unfold signL
  repeat' split
  all_goals (try simp only [List.length_cons, List.length_nil, List.length_append, List.cons_append])
  all_goals first | omega | decide
theorem body_len3 (q e : Nat) (hq : q ≤ 3) (he : e ≤ 3) : ∀ (l : List Nat) (d : Nat), (bodyL q e d l).length ≤ 53 * l.length
  | [], _ => by simp [bodyL]
  | c :: r, d => by
    have h1 := sign_len3 q e c d hq he
    have h2 := body_len3 q e hq he r c
    unfold bodyL
    rw [List.length_append, List.length_cons]
    omega
theorem told_len {l : List Nat} {q e : Nat} (hl : l.length ≤ 16) (hq : q ≤ 3) (he : e ≤ 3) : (toldL l q e).length ≤ 1000 := by
  have h1 := marks_len3 q hq
  have h2 := body_len3 q e hq he l 32
  unfold toldL
  split
  · omega
  · rw [List.length_append, List.length_append]
    omega
end Mine
end
section
open PySem PySem.W PyProof.Rows
set_option maxRecDepth 100000
namespace Mine
/-- the law's text, as codes -/
def charAt (a : Int) : Nat := [10, 13, 38, 60, 39, 62, 97].getD (a.fmod 7).toNat 0
def textL (ns : List Int) : List Nat := (ns.take 8 ++ [1, 2, 3, 0, 4, 5, 6, 1]).map charAt
theorem char_alph (a : Int) : charAt a ∈ alph := by
  have h0 : 0 ≤ a.fmod 7 := Int.fmod_nonneg_of_pos a (by decide)
  have h1 : a.fmod 7 < 7 := Int.fmod_lt_of_pos a (by decide)
  unfold charAt
  generalize a.fmod 7 = k at h0 h1
  have : k = 0 ∨ k = 1 ∨ k = 2 ∨ k = 3 ∨ k = 4 ∨ k = 5 ∨ k = 6 := by omega
  rcases this with rfl | rfl | rfl | rfl | rfl | rfl | rfl <;> decide
theorem text_alph (ns : List Int) : ∀ c ∈ textL ns, c ∈ alph := by
  intro c hc
  unfold textL at hc
  obtain ⟨a, _, rfl⟩ := List.mem_map.mp hc
  exact char_alph a
theorem text_len (ns : List Int) : 8 ≤ (textL ns).length ∧ (textL ns).length ≤ 16 := by
  unfold textL
  rw [List.length_map, List.length_append, List.length_take]
  simp only [List.length_cons, List.length_nil]
  omega
theorem item_L (a : Int) : L (Txt.item (Str.ofString "\n\r&<'>a") (a.fmod 7)) = [charAt a] := by
  have h0 : 0 ≤ a.fmod 7 := Int.fmod_nonneg_of_pos a (by decide)
  have h1 : a.fmod 7 < 7 := Int.fmod_lt_of_pos a (by decide)
  unfold charAt
  generalize a.fmod 7 = k at h0 h1
  have : k = 0 ∨ k = 1 ∨ k = 2 ∨ k = 3 ∨ k = 4 ∨ k = 5 ∨ k = 6 := by omega
  rcases this with rfl | rfl | rfl | rfl | rfl | rfl | rfl <;> rfl
theorem text_strs {ys : List Value} {ns : List Int} (h : CarriedAll ys (List.map (fun a => PyData.str (Txt.item (Str.ofString "\n\r&<'>a") (a.fmod 7))) (List.filter (fun a => true) (List.take 8 ns ++ [1, 2, 3, 0, 4, 5, 6, 1])))) :
    StrsAre ys ((List.take 8 ns ++ [1, 2, 3, 0, 4, 5, 6, 1]).map fun (a : Int) => Txt.item (Str.ofString "\n\r&<'>a") (a.fmod 7)) := by
  apply StrsAre.of_carried
  rw [List.map_map]
  rw [filter_true'] at h
  exact h
theorem text_flat (ns : List Int) : (((List.take 8 ns ++ [1, 2, 3, 0, 4, 5, 6, 1]).map fun (a : Int) => Txt.item (Str.ofString "\n\r&<'>a") (a.fmod 7)).map L).flatten = textL ns := by
  unfold textL
  generalize (List.take 8 ns ++ [1, 2, 3, 0, 4, 5, 6, 1]) = l
  induction l with
  | nil => rfl
  | cons a r ih =>
    rw [List.map_cons, List.map_cons, List.flatten_cons, ih, item_L]
    rfl
end Mine
end
section
open PySem PySem.W PyProof.Rows
set_option maxRecDepth 100000
namespace Mine
structure Good (V : Str) : Prop where
  len : V.length ≤ 16
  asc : V.cps.all (· < 128) = true
  al : ∀ c ∈ L V, c ∈ alph
section
variable {prog : Program} {w : World} {A : Around} {E : Value → Shared → Prop} {s : Shared} {env : Env} {h₀ : Heap} {body : List Stmt} {Q : Flow → Shared → Prop}
/-- the frame inside a turn -/
abbrev mT (m₀ : Str → Option Value) (V : Str) (k : Option Value) (q e : Nat) (tt tq : Tok) : Str → Option Value :=
  fun y => if y = Str.ofString "k" then k else if y = Str.ofString "told" then some (.str (S (toldL (L V) q e)) tt) else if y = Str.ofString "quotes" then some (.int (q : Int) tq) else m₀ y
def TurnEnd (h₀ : Heap) (L₀ : Addr) (m₀ : Str → Option Value) (V : Str) (news : List (Addr × Obj)) (i : Nat) (s s₂ : Shared) : Prop :=
  ∃ h' tk' q e tt tq m', s₂ = { s with heap := h', toks := tk' } ∧ q + e = i ∧ Fr h₀ L₀ h' m' ∧ News h₀ L₀ h' news ∧ m' (Str.ofString "told") = some (.str (S (toldL (L V) q e)) tt) ∧ m' (Str.ofString "quotes") = some (.int (q : Int) tq) ∧
    ∀ z, z ≠ Str.ofString "k" → z ≠ Str.ofString "told" → z ≠ Str.ofString "quotes" → m' z = m₀ z
def TurnPost (h₀ : Heap) (L₀ : Addr) (m₀ : Str → Option Value) (V : Str) (news : List (Addr × Obj)) (i : Nat) (Q : Flow → Shared → Prop) (s : Shared) (f : Flow) (s₂ : Shared) : Prop :=
  match f with
  | .ret v => Q (.ret v) s₂
  | .brk => Q .next s₂
  | _ => TurnEnd h₀ L₀ m₀ V news i s s₂
theorem map_eq {m₀ m₁ : Str → Option Value} {V : Str} {q e : Nat} {tt tq : Tok} (k : Option Value) (h1 : m₁ (Str.ofString "told") = some (.str (S (toldL (L V) q e)) tt)) (h2 : m₁ (Str.ofString "quotes") = some (.int (q : Int) tq))
    (h3 : ∀ z, z ≠ Str.ofString "k" → z ≠ Str.ofString "told" → z ≠ Str.ofString "quotes" → m₁ z = m₀ z) : (fun y => if y = Str.ofString "k" then k else m₁ y) = mT m₀ V k q e tt tq := by
  funext y
  unfold mT
  by_cases a : y = Str.ofString "k"
  · rw [if_pos a, if_pos a]
  · rw [if_neg a, if_neg a]
    by_cases b : y = Str.ofString "told"
    · rw [if_pos b, b, h1]
    · rw [if_neg b]
      by_cases c : y = Str.ofString "quotes"
      · rw [if_pos c, c, h2]
      · rw [if_neg c, h3 y a b c]
theorem inner_loop {r : Addr} {t₀ u₀ v₀ : Tok} {m₀ : Str → Option Value} {news : List (Addr × Obj)} {V : Str} {tV tA tB : Tok}
    (hh : A.handled = none) (hr : IsRange s.heap r 0 4 1 t₀ u₀ v₀) (F : Fr h₀ env.locals s.heap m₀) (N : News h₀ env.locals s.heap news)
    (_hs : m₀ (Str.ofString "start") = some (.str V tV)) (ht : m₀ (Str.ofString "told") = some (.str V tA)) (hq : m₀ (Str.ofString "quotes") = some (.int 0 tB))
    (turn : ∀ (i q e : Nat) tt tq t h tk own, i < 4 → q + e = i → Fr h₀ env.locals h (mT m₀ V (some (.int (i : Int) t)) q e tt tq) → News h₀ env.locals h (news ++ own) →
      wpAny (model prog w) A (execs body env) (TurnPost h₀ env.locals m₀ V (news ++ own) (i + 1) Q { s with heap := h, toks := tk }) E { s with heap := h, toks := tk })
    (done : ∀ k q e tt tq h tk, Fr h₀ env.locals h (mT m₀ V k q e tt tq) → News h₀ env.locals h news → Q .next { s with heap := h, toks := tk }) :
    wpAny (model prog w) A (pyIter (.ref r)) (fun it s₂ => LoopAtV prog w A h₀ env (Str.ofString "k") body Q E it s₂) E s := by
  refine wpAny_pyIter_range hr (by decide) ?_
  have W : Walks prog w A s.heap.objs.size [s.heap.objs.size] [s.heap.objs.size] 4 (fun i v => i < 4 ∧ ∃ t, v = .int (0 + i * 1) t)
      (fun i h => IsRangeIter h s.heap.objs.size (0 + (i : Nat) * 1) ((4 : Int) - (i : Nat)) 1) := (Walks.range hh _ 0 1 4).bound
  refine loop_invN (fun i m nx => nx = news ∧ ∃ q e tt tq, q + e = i ∧ m (Str.ofString "told") = some (.str (S (toldL (L V) q e)) tt) ∧ m (Str.ofString "quotes") = some (.int (q : Int) tq) ∧
    ∀ z, z ≠ Str.ofString "k" → z ≠ Str.ofString "told" → z ≠ Str.ofString "quotes" → m z = m₀ z) W ?_ ?_ ?_ ?_ (by show IsRangeIter _ _ _ _ _; rw [show Builtin.Range.rangeSize 0 4 1 = 4 by decide]; simpa using Heap.get?_push_size _ rfl) (F.push _) (fun p hp => ⟨Heap.get?_push_of_some _ (N p hp).1, (N p hp).2⟩)
    ⟨rfl, 0, 0, tA, tB, rfl, by rw [ht, told_00, S_L], hq, fun _ _ _ _ => rfl⟩ ?_ ?_
  · intro hm
    exact absurd F.ns.lt ((List.mem_singleton.mp hm) ▸ Nat.lt_irrefl _)
  · intro b hb
    rw [List.mem_singleton.mp hb]
    exact next_is_new F
  · intro p hp hI
    exact absurd (Heap.lt_size (N p hp).1) ((List.mem_singleton.mp hI) ▸ Nat.lt_irrefl _)
  · intro p hp hI
    exact absurd (Heap.lt_size (N p hp).1) ((List.mem_singleton.mp hI) ▸ Nat.lt_irrefl _)
  · rintro i v m₁ nx h tk own hi ⟨_, t, rfl⟩ _ hoff ⟨rfl, q, e, tt, tq, hqe, h1, h2, h3⟩ F₁ N₁
    have e1 : (0 : Int) + (i : Int) * 1 = (i : Int) := by omega
    rw [e1, map_eq (some (.int (i : Int) t)) h1 h2 h3] at F₁
    refine wpAny_mono (turn i q e tt tq t h tk own hi hqe F₁ N₁) (fun f s₂ p => ?_) fun _ _ x => x
    have up : TurnEnd h₀ env.locals m₀ V (nx ++ own) (i + 1) { s with heap := h, toks := tk } s₂ →
        InvEndN h₀ env.locals (fun m nx' => nx' = nx ∧ ∃ q e tt tq, q + e = i + 1 ∧ m (Str.ofString "told") = some (.str (S (toldL (L V) q e)) tt) ∧ m (Str.ofString "quotes") = some (.int (q : Int) tq) ∧
          ∀ z, z ≠ Str.ofString "k" → z ≠ Str.ofString "told" → z ≠ Str.ofString "quotes" → m z = m₀ z) own (nx.map (·.1)) { s with heap := h, toks := tk } s₂ := by
      rintro ⟨h', tk', q', e', tt', tq', m', rfl, hqe', F', N', a1, a2, a3⟩
      exact ⟨h', tk', m', nx ++ own, nx, rfl, F', N', fun p hp => List.mem_append.mpr (.inl hp), fun p hp => List.mem_append.mpr (.inr hp), rfl, rfl, q', e', tt', tq', hqe', a1, a2, a3⟩
    cases f with
    | ret v => exact p
    | brk => exact p
    | next => exact up p
    | cont => exact up p
  · rintro m₁ nx h tk ⟨rfl, q, e, tt, tq, hqe, h1, h2, h3⟩ F₁ N₁
    refine done (m₁ (Str.ofString "k")) q e tt tq h tk ?_ N₁
    rw [← map_eq (m₁ (Str.ofString "k")) h1 h2 h3]
    have em : (fun y => if y = Str.ofString "k" then m₁ (Str.ofString "k") else m₁ y) = m₁ := by
      funext y
      by_cases a : y = Str.ofString "k"
      · rw [if_pos a, a]
      · rw [if_neg a]
    rw [em]
    exact F₁
theorem turn_end {L₀ : Addr} {m₀ m' : Str → Option Value} {V : Str} {news : List (Addr × Obj)} {i q e : Nat} {x : Int} {tt tq : Tok} {h' : Heap} {tk' : Nat} (F : Fr h₀ L₀ h' m') (N : News h₀ L₀ h' news) (hqe : q + e = i)
    (h1 : m' (Str.ofString "told") = some (.str (S (toldL (L V) q e)) tt)) (h2 : m' (Str.ofString "quotes") = some (.int x tq)) (hx : x = (q : Int))
    (h3 : ∀ z, z ≠ Str.ofString "k" → z ≠ Str.ofString "told" → z ≠ Str.ofString "quotes" → m' z = m₀ z) : TurnPost h₀ L₀ m₀ V news i Q s .next { s with heap := h', toks := tk' } := by
  subst hx
  exact ⟨h', tk', q, e, tt, tq, m', rfl, hqe, F, N, h1, h2, h3⟩
end
end Mine
end
section
open PySem PySem.W PyProof.Rows
set_option maxRecDepth 100000
namespace Mine
theorem fmod2 (a : Int) : a.fmod 2 = 0 ∨ a.fmod 2 = 1 := by
  have h0 : 0 ≤ a.fmod 2 := Int.fmod_nonneg_of_pos a (by decide)
  have h1 : a.fmod 2 < 2 := Int.fmod_lt_of_pos a (by decide)
  omega
theorem bits_of {ys : List Value} {ns : List Int} (h : IntsAre ys (List.map (fun k' => if (List.take 8 ns).length = min 8 ns.length ∧ (List.take 8 ns).length ≤ ns.length then (((List.take 8 ns).sum + 6).fdiv (2 ^ k'.toNat)).fmod 2 else k') (rangeKs 0 (4 - 0 : Int).toNat))) :
    ∀ k : Nat, k < 4 → ∃ b t, ys[k]? = some (.int b t) ∧ (b = 0 ∨ b = 1) := by
  have hc : (List.take 8 ns).length = min 8 ns.length ∧ (List.take 8 ns).length ≤ ns.length := by
    rw [List.length_take]
    omega
  intro k hk
  have hx : (rangeKs 0 (4 - 0 : Int).toNat)[k]? = some ((0 : Int) + (k : Int)) := by
    have : (4 - 0 : Int).toNat = 4 := by decide
    rw [this]
    simp [rangeKs, hk]
  have hm := congrArg (Option.map (fun k' => if (List.take 8 ns).length = min 8 ns.length ∧ (List.take 8 ns).length ≤ ns.length then (((List.take 8 ns).sum + 6).fdiv (2 ^ k'.toNat)).fmod 2 else k')) hx
  rw [← List.getElem?_map] at hm
  obtain ⟨t, ht⟩ := h.get k _ hm
  dsimp only at ht
  rw [if_pos hc] at ht
  exact ⟨_, t, ht, fmod2 _⟩
theorem slice_tail (l : List Nat) (h : 1 ≤ l.length) : Txt.slice (S l) (some 1) none = S l.tail := by
  have hl : (S l).length = l.length := by rw [← len_L, L_S l]
  have e1 : Txt.slice (S l) (some 1) none = StrLaws.sliceText (S l) (some ((1 : Nat) : Int)) (some (((S l).length : Nat) : Int)) := by
    unfold Txt.slice StrLaws.sliceText
    rw [StrLaws.sliceIdx_none_hi]
    rfl
  rw [e1, StrLaws.sliceText_nat (S l) (by omega) (Nat.le_refl _)]
  show S (((L (S l)).drop 1).take ((S l).length - 1)) = _
  rw [L_S l, hl]
  congr 1
  rw [List.take_of_length_le (by simp)]
  simp
theorem good_S {l : List Nat} (h1 : l.length ≤ 16) (h2 : ∀ c ∈ l, c ∈ alph) : Good (S l) := by
  refine ⟨by rw [← len_L, L_S l]; exact h1, ?_, by rw [L_S l]; exact h2⟩
  rw [← Array.all_toList]
  show (L (S l)).all _ = true
  rw [L_S l, List.all_eq_true]
  intro c hc
  rcases mem_alph (h2 c hc) with rfl | rfl | rfl | rfl | rfl | rfl | rfl <;> decide
theorem good_text (ns : List Int) : Good (S (textL ns)) := good_S (text_len ns).2 (text_alph ns)
theorem good_tail (ns : List Int) : Good (S (textL ns).tail) := good_S (by rw [List.length_tail]; have := (text_len ns).2; omega) fun c hc => text_alph ns c (List.mem_of_mem_tail hc)
theorem good_aaa : Good (Str.ofString "aaa") := good_S (l := [97, 97, 97]) (by decide) (by decide)
theorem good_nil : Good (Str.ofString "") := good_S (l := []) (by decide) (by decide)
end Mine
end
section
open PySem PySem.W PyProof.Rows
set_option maxRecDepth 100000
namespace Mine
section
variable {w : World} {mean : ExcName → Option Value} {mg mb : Str → Option Value} {V : Str} {q e : Nat}
theorem esc_step (gV : Good V) (h : q + e ≤ 3) (news : List (Addr × Obj)) (t : Tok) : ClK w mean mg mb 43 news 1 [.str (S (toldL (L V) q e)) t] (fun t => .str (S (toldL (L V) q (e + 1))) t) := by
  intro dp un gd cn cs a ccd cl outer A₀ base h₀ L₀ m s Q E B F X N T hc hd hu hr
  have hv : (S (toldL (L V) q e)).length ≤ 1000 := by
    rw [len_S]
    exact told_len (by rw [len_L]; exact gV.len) (by omega) (by omega)
  have ha : (L (S (toldL (L V) q e))).all (fun c => !ctlU c) = true := by
    rw [L_S (toldL (L V) q e)]
    exact told_ok gV.al q e
  have key := esc_c (w := w) (mean := mean) (mg := mg) (mb := mb) (news := news) (S (toldL (L V) q e)) t
  have e1 : S (escL (L (S (toldL (L V) q e)))) = S (toldL (L V) q (e + 1)) := by rw [L_S (toldL (L V) q e), esc_told]
  rw [e1] at key
  exact key dp un gd cn cs a ccd cl outer A₀ base h₀ L₀ m s Q E B F X N T hc ⟨hv, ha⟩ hd hu hr
theorem quote_step (gV : Good V) (h : q + e ≤ 3) (news : List (Addr × Obj)) (t : Tok) : ClK w mean mg mb 56 news 1 [.str (S (toldL (L V) q e)) t] (fun t => .str (S (toldL (L V) (q + 1) e)) t) := by
  intro dp un gd cn cs a ccd cl outer A₀ base h₀ L₀ m s Q E B F X N T hc hd hu hr
  have hv : (S (toldL (L V) q e)).length ≤ 1000 := by
    rw [len_S]
    exact told_len (by rw [len_L]; exact gV.len) (by omega) (by omega)
  have key := quote_c (w := w) (mean := mean) (mg := mg) (mb := mb) (news := news) (S (toldL (L V) q e)) t
  have e1 : S (quoteL (L (S (toldL (L V) q e)))) = S (toldL (L V) (q + 1) e) := by rw [L_S (toldL (L V) q e), quote_told gV.al]
  rw [e1] at key
  exact key dp un gd cn cs a ccd cl outer A₀ base h₀ L₀ m s Q E B F X N T hc (by omega) hd hu hr
theorem told_step (gV : Good V) (hq : q ≤ 4) (he : e ≤ 4) (news : List (Addr × Obj)) (t1 t2 t3 : Tok) : ClK w mean mg mb 73 news 12 [.str V t1, .int q t2, .int e t3] (fun t => .str (S (toldL (L V) q e)) t) :=
  told_c V q e hq he gV.len gV.asc news t1 t2 t3
end
theorem e_esc {q e i : Nat} (h : q + e = i) : (i : Int) + 1 - ((q : Int) + 0) = ((e + 1 : Nat) : Int) := by omega
theorem e_quo {q e i : Nat} (h : q + e = i) : (i : Int) + 1 - ((q : Int) + 1) = ((e : Nat) : Int) := by omega
theorem q_esc {q : Nat} : (q : Int) + 0 = ((q : Nat) : Int) := by omega
theorem q_quo {q : Nat} : (q : Int) + 1 = ((q + 1 : Nat) : Int) := by omega
end Mine
end
section
open PySem PySem.W PyProof.Rows
set_option maxRecDepth 100000
set_option maxHeartbeats 8000000
namespace Mine
section
local macro_rules | `(tactic| walk_at "call builtin:str.join") => `(tactic| (k_here; refine Hold.to ?_))
local macro_rules | `(tactic| walk_at "subscriptTail Name Slice str ref") => `(tactic| (k_here; refine Hold.to ?_))
local macro_rules | `(tactic| walk_at "exec For Name Call cons nil") => `(tactic| (k_here; refine Hold.to ?_))
local macro_rules | `(tactic| walk_at "subscriptTail Name Name ref int") => `(tactic| (k_here; refine Hold.to ?_))
local macro_rules | `(tactic| walk_at "pyIter ref") => `(tactic| (k_here; (with_reducible show wpAny _ _ (pyIter (Value.ref _)) (fun it s₂ => LoopAtV _ _ _ _ _ (Str.ofString "k") _ _ _ it s₂) _ _); refine Hold.to ?_))
local macro_rules | `(tactic| walk_at "call ref") => `(tactic| ((with_reducible show wpAny _ _ (call (Value.ref 43) _) _ _ _); refine Hold.to ?_))
local macro_rules | `(tactic| walk_at "call ref") => `(tactic| ((with_reducible show wpAny _ _ (call (Value.ref 56) _) _ _ _); refine Hold.to ?_))
local macro_rules | `(tactic| walk_at "call ref") => `(tactic| ((with_reducible show wpAny _ _ (call (Value.ref 73) _) _ _ _); refine Hold.to ?_))
theorem law_w : PySem.Challenge.rw_mj0040_01.Holds := by
  refine hd ?_
  w_strict (k_go0; (all_goals try k_fold); k_steps)
  unfold Hold
  (with_reducible rename CarriedAll _ _ => hc9)
  have hs9 := text_strs hc9
  refine join_S (by k_asm) hs9 ?_ fun t9 k9 => ?_
  · rw [text_flat]; have := text_len ‹List Int›; omega
  rw [text_flat]
  generalize hTX : textL _ = TX
  have gT : Good (S TX) := hTX ▸ good_text _
  have gR : Good (S TX.tail) := hTX ▸ good_tail _
  have lT : 8 ≤ TX.length := hTX ▸ (text_len _).1
  clear hTX hs9 hc9
  k_steps
  unfold Hold
  (with_reducible rename IntsAre _ (List.map _ (rangeKs _ _)) => hI9)
  have hB := bits_of hI9
  (with_reducible rename Fr _ _ _ _ => F9)
  (with_reducible rename News _ _ _ _ => N9)
  refine slice_strN_sn (hsz := ?hsz9) (s := ⟨_, _, _, _, _⟩) F9 N9 ?_
  case hsz9 => rw [sizeLine_eq]; have := gT.len; omega
  intro h8 t8 k8 F8 N8
  rw [slice_tail TX (by omega)]
  k_steps
  unfold Hold
  (with_reducible rename Fr _ _ _ _ => F7)
  (with_reducible rename News _ _ _ _ => N7)
  (with_unfolding_all refine' For_invVF F7 ?f1A ?f2A ?_)
  case f1A => exact rfl
  case f2A => exact rfl
  k_steps
  unfold Hold
  refine inner_loop rfl (by assumption) (by k_asm) (by k_asm) rfl rfl rfl ?turnA ?doneA
  case turnA =>
    intro i q e tt tq t h tk own hi hqe F6 N6
    obtain ⟨b, tb, hb, hb01⟩ := hB i hi
    rcases hb01 with rfl | rfl
    · k_steps
      unfold Hold
      (with_unfolding_all refine' item_litK ?l1A ?l2A ?l3A ?l4A ?_ ?l6A)
      case l1A => exact lst_list (by k_asm) (by k_mem)
      case l2A => omega
      case l3A => omega
      case l4A => exact hb
      case l6A => with_unfolding_all rfl
      k_steps
      unfold Hold
      refine' esc_step (V := _) (q := q) (e := e) (by first | assumption | exact good_aaa | exact good_nil) (by omega) _ _ _ _ _ _ _ _ _ _ _ _ _ _ _ _ _ _ _ ?k1A ?k2A ?k3A ?k4A ?k5A ?kKA ?kdA ?kuA ?kRA
      case k1A => k_asm
      case k2A => k_asm
      case k3A => k_asm
      case k4A => k_asm
      case k5A => k_asm
      case kKA => rfl
      case kdA => ktr_room
      case kuA => ktr_units
      case kRA =>
        intro t5 h5 tk5 F5 N5
        k_steps
        unfold Hold
        (with_unfolding_all refine' item_litK ?l1A ?l2A ?l3A ?l4A ?_ ?l6A)
        case l1A => exact lst_list (by k_asm) (by k_mem)
        case l2A => omega
        case l3A => omega
        case l4A => exact hb
        case l6A => with_unfolding_all rfl
        k_steps
        rw [e_esc hqe, q_esc]
        unfold Hold
        refine' told_step (V := _) (q := q) (e := (e + 1)) (by first | assumption | exact good_aaa | exact good_nil) (by omega) (by omega) _ _ _ _ _ _ _ _ _ _ _ _ _ _ _ _ _ _ _ _ _ ?k1A ?k2A ?k3A ?k4A ?k5A ?kKA ?kdA ?kuA ?kRA
        case k1A => k_asm
        case k2A => k_asm
        case k3A => k_asm
        case k4A => k_asm
        case k5A => k_asm
        case kKA => rfl
        case kdA => ktr_room
        case kuA => ktr_units
        case kRA =>
          intro t4 h4 tk4 F4 N4
          k_steps
          · rename_i hne
            simp at hne
          · refine turn_end (q := q) (e := (e + 1)) (by k_asm) (by k_asm) (by omega) rfl rfl (by omega) ?_
            intro z a b c
            simp only [mT, if_neg a, if_neg b, if_neg c]
    · k_steps
      unfold Hold
      (with_unfolding_all refine' item_litK ?l1A ?l2A ?l3A ?l4A ?_ ?l6A)
      case l1A => exact lst_list (by k_asm) (by k_mem)
      case l2A => omega
      case l3A => omega
      case l4A => exact hb
      case l6A => with_unfolding_all rfl
      k_steps
      unfold Hold
      refine' quote_step (V := _) (q := q) (e := e) (by first | assumption | exact good_aaa | exact good_nil) (by omega) _ _ _ _ _ _ _ _ _ _ _ _ _ _ _ _ _ _ _ ?k1A ?k2A ?k3A ?k4A ?k5A ?kKA ?kdA ?kuA ?kRA
      case k1A => k_asm
      case k2A => k_asm
      case k3A => k_asm
      case k4A => k_asm
      case k5A => k_asm
      case kKA => rfl
      case kdA => ktr_room
      case kuA => ktr_units
      case kRA =>
        intro t5 h5 tk5 F5 N5
        k_steps
        unfold Hold
        (with_unfolding_all refine' item_litK ?l1A ?l2A ?l3A ?l4A ?_ ?l6A)
        case l1A => exact lst_list (by k_asm) (by k_mem)
        case l2A => omega
        case l3A => omega
        case l4A => exact hb
        case l6A => with_unfolding_all rfl
        k_steps
        rw [e_quo hqe, q_quo]
        unfold Hold
        refine' told_step (V := _) (q := (q + 1)) (e := e) (by first | assumption | exact good_aaa | exact good_nil) (by omega) (by omega) _ _ _ _ _ _ _ _ _ _ _ _ _ _ _ _ _ _ _ _ _ ?k1A ?k2A ?k3A ?k4A ?k5A ?kKA ?kdA ?kuA ?kRA
        case k1A => k_asm
        case k2A => k_asm
        case k3A => k_asm
        case k4A => k_asm
        case k5A => k_asm
        case kKA => rfl
        case kdA => ktr_room
        case kuA => ktr_units
        case kRA =>
          intro t4 h4 tk4 F4 N4
          k_steps
          · rename_i hne
            simp at hne
          · refine turn_end (q := (q + 1)) (e := e) (by k_asm) (by k_asm) (by omega) rfl rfl (by omega) ?_
            intro z a b c
            simp only [mT, if_neg a, if_neg b, if_neg c]
  intro k9 q9 e9 tt9 tq9 h9 tk9 F9 N9
  k_steps
  unfold Hold
  (with_reducible rename Fr _ _ _ _ => F7)
  (with_reducible rename News _ _ _ _ => N7)
  (with_unfolding_all refine' For_invVF F7 ?f1B ?f2B ?_)
  case f1B => exact rfl
  case f2B => exact rfl
  k_steps
  unfold Hold
  refine inner_loop rfl (by assumption) (by k_asm) (by k_asm) rfl rfl rfl ?turnB ?doneB
  case turnB =>
    intro i q e tt tq t h tk own hi hqe F6 N6
    obtain ⟨b, tb, hb, hb01⟩ := hB i hi
    rcases hb01 with rfl | rfl
    · k_steps
      unfold Hold
      (with_unfolding_all refine' item_litK ?l1B ?l2B ?l3B ?l4B ?_ ?l6B)
      case l1B => exact lst_list (by k_asm) (by k_mem)
      case l2B => omega
      case l3B => omega
      case l4B => exact hb
      case l6B => with_unfolding_all rfl
      k_steps
      unfold Hold
      refine' esc_step (V := _) (q := q) (e := e) (by first | assumption | exact good_aaa | exact good_nil) (by omega) _ _ _ _ _ _ _ _ _ _ _ _ _ _ _ _ _ _ _ ?k1B ?k2B ?k3B ?k4B ?k5B ?kKB ?kdB ?kuB ?kRB
      case k1B => k_asm
      case k2B => k_asm
      case k3B => k_asm
      case k4B => k_asm
      case k5B => k_asm
      case kKB => rfl
      case kdB => ktr_room
      case kuB => ktr_units
      case kRB =>
        intro t5 h5 tk5 F5 N5
        k_steps
        unfold Hold
        (with_unfolding_all refine' item_litK ?l1B ?l2B ?l3B ?l4B ?_ ?l6B)
        case l1B => exact lst_list (by k_asm) (by k_mem)
        case l2B => omega
        case l3B => omega
        case l4B => exact hb
        case l6B => with_unfolding_all rfl
        k_steps
        rw [e_esc hqe, q_esc]
        unfold Hold
        refine' told_step (V := _) (q := q) (e := (e + 1)) (by first | assumption | exact good_aaa | exact good_nil) (by omega) (by omega) _ _ _ _ _ _ _ _ _ _ _ _ _ _ _ _ _ _ _ _ _ ?k1B ?k2B ?k3B ?k4B ?k5B ?kKB ?kdB ?kuB ?kRB
        case k1B => k_asm
        case k2B => k_asm
        case k3B => k_asm
        case k4B => k_asm
        case k5B => k_asm
        case kKB => rfl
        case kdB => ktr_room
        case kuB => ktr_units
        case kRB =>
          intro t4 h4 tk4 F4 N4
          k_steps
          · rename_i hne
            simp at hne
          · refine turn_end (q := q) (e := (e + 1)) (by k_asm) (by k_asm) (by omega) rfl rfl (by omega) ?_
            intro z a b c
            simp only [mT, if_neg a, if_neg b, if_neg c]
    · k_steps
      unfold Hold
      (with_unfolding_all refine' item_litK ?l1B ?l2B ?l3B ?l4B ?_ ?l6B)
      case l1B => exact lst_list (by k_asm) (by k_mem)
      case l2B => omega
      case l3B => omega
      case l4B => exact hb
      case l6B => with_unfolding_all rfl
      k_steps
      unfold Hold
      refine' quote_step (V := _) (q := q) (e := e) (by first | assumption | exact good_aaa | exact good_nil) (by omega) _ _ _ _ _ _ _ _ _ _ _ _ _ _ _ _ _ _ _ ?k1B ?k2B ?k3B ?k4B ?k5B ?kKB ?kdB ?kuB ?kRB
      case k1B => k_asm
      case k2B => k_asm
      case k3B => k_asm
      case k4B => k_asm
      case k5B => k_asm
      case kKB => rfl
      case kdB => ktr_room
      case kuB => ktr_units
      case kRB =>
        intro t5 h5 tk5 F5 N5
        k_steps
        unfold Hold
        (with_unfolding_all refine' item_litK ?l1B ?l2B ?l3B ?l4B ?_ ?l6B)
        case l1B => exact lst_list (by k_asm) (by k_mem)
        case l2B => omega
        case l3B => omega
        case l4B => exact hb
        case l6B => with_unfolding_all rfl
        k_steps
        rw [e_quo hqe, q_quo]
        unfold Hold
        refine' told_step (V := _) (q := (q + 1)) (e := e) (by first | assumption | exact good_aaa | exact good_nil) (by omega) (by omega) _ _ _ _ _ _ _ _ _ _ _ _ _ _ _ _ _ _ _ _ _ ?k1B ?k2B ?k3B ?k4B ?k5B ?kKB ?kdB ?kuB ?kRB
        case k1B => k_asm
        case k2B => k_asm
        case k3B => k_asm
        case k4B => k_asm
        case k5B => k_asm
        case kKB => rfl
        case kdB => ktr_room
        case kuB => ktr_units
        case kRB =>
          intro t4 h4 tk4 F4 N4
          k_steps
          · rename_i hne
            simp at hne
          · refine turn_end (q := (q + 1)) (e := e) (by k_asm) (by k_asm) (by omega) rfl rfl (by omega) ?_
            intro z a b c
            simp only [mT, if_neg a, if_neg b, if_neg c]
  intro k9 q9 e9 tt9 tq9 h9 tk9 F9 N9
  k_steps
  unfold Hold
  (with_reducible rename Fr _ _ _ _ => F7)
  (with_reducible rename News _ _ _ _ => N7)
  (with_unfolding_all refine' For_invVF F7 ?f1C ?f2C ?_)
  case f1C => exact rfl
  case f2C => exact rfl
  k_steps
  unfold Hold
  refine inner_loop rfl (by assumption) (by k_asm) (by k_asm) rfl rfl rfl ?turnC ?doneC
  case turnC =>
    intro i q e tt tq t h tk own hi hqe F6 N6
    obtain ⟨b, tb, hb, hb01⟩ := hB i hi
    rcases hb01 with rfl | rfl
    · k_steps
      unfold Hold
      (with_unfolding_all refine' item_litK ?l1C ?l2C ?l3C ?l4C ?_ ?l6C)
      case l1C => exact lst_list (by k_asm) (by k_mem)
      case l2C => omega
      case l3C => omega
      case l4C => exact hb
      case l6C => with_unfolding_all rfl
      k_steps
      unfold Hold
      refine' esc_step (V := _) (q := q) (e := e) (by first | assumption | exact good_aaa | exact good_nil) (by omega) _ _ _ _ _ _ _ _ _ _ _ _ _ _ _ _ _ _ _ ?k1C ?k2C ?k3C ?k4C ?k5C ?kKC ?kdC ?kuC ?kRC
      case k1C => k_asm
      case k2C => k_asm
      case k3C => k_asm
      case k4C => k_asm
      case k5C => k_asm
      case kKC => rfl
      case kdC => ktr_room
      case kuC => ktr_units
      case kRC =>
        intro t5 h5 tk5 F5 N5
        k_steps
        unfold Hold
        (with_unfolding_all refine' item_litK ?l1C ?l2C ?l3C ?l4C ?_ ?l6C)
        case l1C => exact lst_list (by k_asm) (by k_mem)
        case l2C => omega
        case l3C => omega
        case l4C => exact hb
        case l6C => with_unfolding_all rfl
        k_steps
        rw [e_esc hqe, q_esc]
        unfold Hold
        refine' told_step (V := _) (q := q) (e := (e + 1)) (by first | assumption | exact good_aaa | exact good_nil) (by omega) (by omega) _ _ _ _ _ _ _ _ _ _ _ _ _ _ _ _ _ _ _ _ _ ?k1C ?k2C ?k3C ?k4C ?k5C ?kKC ?kdC ?kuC ?kRC
        case k1C => k_asm
        case k2C => k_asm
        case k3C => k_asm
        case k4C => k_asm
        case k5C => k_asm
        case kKC => rfl
        case kdC => ktr_room
        case kuC => ktr_units
        case kRC =>
          intro t4 h4 tk4 F4 N4
          k_steps
          · rename_i hne
            simp at hne
          · refine turn_end (q := q) (e := (e + 1)) (by k_asm) (by k_asm) (by omega) rfl rfl (by omega) ?_
            intro z a b c
            simp only [mT, if_neg a, if_neg b, if_neg c]
    · k_steps
      unfold Hold
      (with_unfolding_all refine' item_litK ?l1C ?l2C ?l3C ?l4C ?_ ?l6C)
      case l1C => exact lst_list (by k_asm) (by k_mem)
      case l2C => omega
      case l3C => omega
      case l4C => exact hb
      case l6C => with_unfolding_all rfl
      k_steps
      unfold Hold
      refine' quote_step (V := _) (q := q) (e := e) (by first | assumption | exact good_aaa | exact good_nil) (by omega) _ _ _ _ _ _ _ _ _ _ _ _ _ _ _ _ _ _ _ ?k1C ?k2C ?k3C ?k4C ?k5C ?kKC ?kdC ?kuC ?kRC
      case k1C => k_asm
      case k2C => k_asm
      case k3C => k_asm
      case k4C => k_asm
      case k5C => k_asm
      case kKC => rfl
      case kdC => ktr_room
      case kuC => ktr_units
      case kRC =>
        intro t5 h5 tk5 F5 N5
        k_steps
        unfold Hold
        (with_unfolding_all refine' item_litK ?l1C ?l2C ?l3C ?l4C ?_ ?l6C)
        case l1C => exact lst_list (by k_asm) (by k_mem)
        case l2C => omega
        case l3C => omega
        case l4C => exact hb
        case l6C => with_unfolding_all rfl
        k_steps
        rw [e_quo hqe, q_quo]
        unfold Hold
        refine' told_step (V := _) (q := (q + 1)) (e := e) (by first | assumption | exact good_aaa | exact good_nil) (by omega) (by omega) _ _ _ _ _ _ _ _ _ _ _ _ _ _ _ _ _ _ _ _ _ ?k1C ?k2C ?k3C ?k4C ?k5C ?kKC ?kdC ?kuC ?kRC
        case k1C => k_asm
        case k2C => k_asm
        case k3C => k_asm
        case k4C => k_asm
        case k5C => k_asm
        case kKC => rfl
        case kdC => ktr_room
        case kuC => ktr_units
        case kRC =>
          intro t4 h4 tk4 F4 N4
          k_steps
          · rename_i hne
            simp at hne
          · refine turn_end (q := (q + 1)) (e := e) (by k_asm) (by k_asm) (by omega) rfl rfl (by omega) ?_
            intro z a b c
            simp only [mT, if_neg a, if_neg b, if_neg c]
  intro k9 q9 e9 tt9 tq9 h9 tk9 F9 N9
  k_steps
  unfold Hold
  (with_reducible rename Fr _ _ _ _ => F7)
  (with_reducible rename News _ _ _ _ => N7)
  (with_unfolding_all refine' For_invVF F7 ?f1D ?f2D ?_)
  case f1D => exact rfl
  case f2D => exact rfl
  k_steps
  unfold Hold
  refine inner_loop rfl (by assumption) (by k_asm) (by k_asm) rfl rfl rfl ?turnD ?doneD
  case turnD =>
    intro i q e tt tq t h tk own hi hqe F6 N6
    obtain ⟨b, tb, hb, hb01⟩ := hB i hi
    rcases hb01 with rfl | rfl
    · k_steps
      unfold Hold
      (with_unfolding_all refine' item_litK ?l1D ?l2D ?l3D ?l4D ?_ ?l6D)
      case l1D => exact lst_list (by k_asm) (by k_mem)
      case l2D => omega
      case l3D => omega
      case l4D => exact hb
      case l6D => with_unfolding_all rfl
      k_steps
      unfold Hold
      refine' esc_step (V := _) (q := q) (e := e) (by first | assumption | exact good_aaa | exact good_nil) (by omega) _ _ _ _ _ _ _ _ _ _ _ _ _ _ _ _ _ _ _ ?k1D ?k2D ?k3D ?k4D ?k5D ?kKD ?kdD ?kuD ?kRD
      case k1D => k_asm
      case k2D => k_asm
      case k3D => k_asm
      case k4D => k_asm
      case k5D => k_asm
      case kKD => rfl
      case kdD => ktr_room
      case kuD => ktr_units
      case kRD =>
        intro t5 h5 tk5 F5 N5
        k_steps
        unfold Hold
        (with_unfolding_all refine' item_litK ?l1D ?l2D ?l3D ?l4D ?_ ?l6D)
        case l1D => exact lst_list (by k_asm) (by k_mem)
        case l2D => omega
        case l3D => omega
        case l4D => exact hb
        case l6D => with_unfolding_all rfl
        k_steps
        rw [e_esc hqe, q_esc]
        unfold Hold
        refine' told_step (V := _) (q := q) (e := (e + 1)) (by first | assumption | exact good_aaa | exact good_nil) (by omega) (by omega) _ _ _ _ _ _ _ _ _ _ _ _ _ _ _ _ _ _ _ _ _ ?k1D ?k2D ?k3D ?k4D ?k5D ?kKD ?kdD ?kuD ?kRD
        case k1D => k_asm
        case k2D => k_asm
        case k3D => k_asm
        case k4D => k_asm
        case k5D => k_asm
        case kKD => rfl
        case kdD => ktr_room
        case kuD => ktr_units
        case kRD =>
          intro t4 h4 tk4 F4 N4
          k_steps
          · rename_i hne
            simp at hne
          · refine turn_end (q := q) (e := (e + 1)) (by k_asm) (by k_asm) (by omega) rfl rfl (by omega) ?_
            intro z a b c
            simp only [mT, if_neg a, if_neg b, if_neg c]
    · k_steps
      unfold Hold
      (with_unfolding_all refine' item_litK ?l1D ?l2D ?l3D ?l4D ?_ ?l6D)
      case l1D => exact lst_list (by k_asm) (by k_mem)
      case l2D => omega
      case l3D => omega
      case l4D => exact hb
      case l6D => with_unfolding_all rfl
      k_steps
      unfold Hold
      refine' quote_step (V := _) (q := q) (e := e) (by first | assumption | exact good_aaa | exact good_nil) (by omega) _ _ _ _ _ _ _ _ _ _ _ _ _ _ _ _ _ _ _ ?k1D ?k2D ?k3D ?k4D ?k5D ?kKD ?kdD ?kuD ?kRD
      case k1D => k_asm
      case k2D => k_asm
      case k3D => k_asm
      case k4D => k_asm
      case k5D => k_asm
      case kKD => rfl
      case kdD => ktr_room
      case kuD => ktr_units
      case kRD =>
        intro t5 h5 tk5 F5 N5
        k_steps
        unfold Hold
        (with_unfolding_all refine' item_litK ?l1D ?l2D ?l3D ?l4D ?_ ?l6D)
        case l1D => exact lst_list (by k_asm) (by k_mem)
        case l2D => omega
        case l3D => omega
        case l4D => exact hb
        case l6D => with_unfolding_all rfl
        k_steps
        rw [e_quo hqe, q_quo]
        unfold Hold
        refine' told_step (V := _) (q := (q + 1)) (e := e) (by first | assumption | exact good_aaa | exact good_nil) (by omega) (by omega) _ _ _ _ _ _ _ _ _ _ _ _ _ _ _ _ _ _ _ _ _ ?k1D ?k2D ?k3D ?k4D ?k5D ?kKD ?kdD ?kuD ?kRD
        case k1D => k_asm
        case k2D => k_asm
        case k3D => k_asm
        case k4D => k_asm
        case k5D => k_asm
        case kKD => rfl
        case kdD => ktr_room
        case kuD => ktr_units
        case kRD =>
          intro t4 h4 tk4 F4 N4
          k_steps
          · rename_i hne
            simp at hne
          · refine turn_end (q := (q + 1)) (e := e) (by k_asm) (by k_asm) (by omega) rfl rfl (by omega) ?_
            intro z a b c
            simp only [mT, if_neg a, if_neg b, if_neg c]
  intro k9 q9 e9 tt9 tq9 h9 tk9 F9 N9
  k_steps
end
end Mine
end
theorem PySem.Challenge.cw_mj0040_01_holds : PySem.Challenge.rw_mj0040_01.Holds := by
  exact Mine.law_w
