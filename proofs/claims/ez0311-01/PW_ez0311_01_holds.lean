import PyProof.Rows.All
import Wide.All
import OpenK.AllK
import Wide.FinOn
import PySem.Challenge.RW_ez0311_01
set_option Elab.async false
set_option maxRecDepth 100000

section
open PySem PyProof.Rows
namespace Mine
open PySem.Sre

def intsOf : List PySem.Expr → List Nat
  | .Constant (.int i) _ _ :: r => i.toNat :: intsOf r
  | _ => []
/-- the words of the pattern, as the text's own row has them -/
def codeC : Array Nat := match PySem.Challenge.pw_ez0311_01.main.body[(6 : Nat)]? with
  | some (.Assign _ (.Call _ (_ :: _ :: .List es _ :: _) _ _) _) => (intsOf es).toArray
  | _ => #[]

/-- the machine where it tries place p -/
def tryAt (text : Array Nat) (lim p : Nat) (first must : Bool) (marks : Array (Option Nat)) (seen : Sre.Seen) : M :=
  { code := codeC, text, lim, start := p, lastStart := lim, mustAdvance := must, pc := 9, pos := p, handed := p, outermost := first, marks,
    frames := [{ wait := .nextStart, pc := 9, pos := p, outermost := first }], weight := 1, seen }

theorem runFor_done : ∀ (n : Nat) (m : M), m.outcome.isSome = true → M.runFor n m = m
  | 0, _, _ => rfl
  | n + 1, m, h => by rw [M.runFor, if_pos h]
theorem runFor_step (n : Nat) (m : M) (h : m.outcome.isSome = false) : M.runFor (n + 1) m = M.runFor n m.step := by
  rw [M.runFor, if_neg (by rw [h]; exact Bool.false_ne_true)]
theorem runFor_add : ∀ (a b : Nat) (m : M), M.runFor (a + b) m = M.runFor b (M.runFor a m)
  | 0, b, m => by rw [Nat.zero_add]; rfl
  | a + 1, b, m => by
    cases h : m.outcome.isSome with
    | true => rw [runFor_done _ _ h, runFor_done _ _ h, runFor_done _ _ h]
    | false =>
      rw [Nat.add_right_comm, runFor_step _ _ h, runFor_step _ _ h]
      exact runFor_add a b m.step

section
variable {text : Array Nat} {lim p : Nat} {first must : Bool} {marks : Array (Option Nat)} {seen : Sre.Seen}

theorem lit_step (h : p < lim) : (tryAt text lim p first must marks seen).step =
    (match (text.getD p 0 == 92) with
      | false => { tryAt text lim p first must marks seen with seen := seen.add 16, answer := some false }
      | true => { tryAt text lim p first must marks seen with seen := seen.add 16, pc := 11, pos := p + 1 }) := by
  have e : (tryAt text lim p first must marks seen).step = (if p ≥ lim then { tryAt text lim p first must marks seen with seen := seen.add 16, answer := some false } else
      match (.ok (text.getD p 0 == 92, seen.add 16) : Except String (Bool × Sre.Seen)) with
      | .error why => ({ tryAt text lim p first must marks seen with seen := seen.add 16 } : M).stick why
      | .ok (false, seen') => { tryAt text lim p first must marks seen with seen := seen', answer := some false }
      | .ok (true, seen') => { tryAt text lim p first must marks seen with seen := seen', pc := 11, pos := p + 1 }) := rfl
  rw [e, if_neg (by omega)]
  cases (text.getD p 0 == 92) <;> rfl

theorem skip2 (h : p < lim) (hc : text.getD p 0 ≠ 92) : M.runFor 2 (tryAt text lim p first must marks seen) = tryAt text lim (p + 1) false false marks (seen.add 16) := by
  rw [runFor_step _ _ rfl, lit_step h]
  have : (text.getD p 0 == 92) = false := by simpa using hc
  rw [this]
  rw [runFor_step _ _ rfl]
  have e : ({ tryAt text lim p first must marks seen with seen := seen.add 16, answer := some false } : M).step =
    (if p < lim then tryAt text lim (p + 1) false false marks (seen.add 16) else
      { tryAt text lim p first must marks seen with seen := seen.add 16, answer := some false, frames := [], weight := 0 }) := rfl
  show M.runFor 0 ({ tryAt text lim p first must marks seen with seen := seen.add 16, answer := some false } : M).step = _
  rw [e, if_pos h]
  rfl

/-- at the end: no more places -/
theorem none3 : (M.runFor 3 (tryAt text lim lim first must marks seen)).outcome = some .failed := by
  rw [runFor_step _ _ rfl]
  have e : (tryAt text lim lim first must marks seen).step = (if lim ≥ lim then { tryAt text lim lim first must marks seen with seen := seen.add 16, answer := some false } else
      match accepts codeC 9 (text.getD lim 0) (seen.add 16) with
      | .error why => ({ tryAt text lim lim first must marks seen with seen := seen.add 16 } : M).stick why
      | .ok (false, seen') => { tryAt text lim lim first must marks seen with seen := seen', answer := some false }
      | .ok (true, seen') => { tryAt text lim lim first must marks seen with seen := seen', pc := 11, pos := lim + 1 }) := rfl
  rw [e, if_pos (Nat.le_refl _), runFor_step _ _ rfl]
  have e2 : ({ tryAt text lim lim first must marks seen with seen := seen.add 16, answer := some false } : M).step =
    (if lim < lim then tryAt text lim (lim + 1) false false marks (seen.add 16) else
      { tryAt text lim lim first must marks seen with seen := seen.add 16, answer := some false, frames := [], weight := 0 }) := rfl
  rw [e2, if_neg (Nat.lt_irrefl _), runFor_step _ _ rfl]
  rfl

/-- the letters that may stand behind the backslash -/
def escCode (c : Nat) : Bool := c == 92 || c == 110 || c == 34 || c == 114

theorem set_esc {c : Nat} (h : escCode c = true) (seen : Sre.Seen) : inSet codeC c codeC.size 17 true seen = .ok (true, seen.add 9) := by
  unfold escCode at h
  simp only [Bool.or_eq_true, beq_iff_eq] at h
  rcases h with ((rfl | rfl) | rfl) | rfl <;> rfl

/-- what the machine is at when it has found -/
structure Found (m : M) (p : Nat) : Prop where
  out : m.outcome = some .matched
  start : m.start = p
  handed : m.handed = p + 2
  lastmark : m.lastmark = 1
  lastindex : m.lastindex = 1
  m0 : m.marks.getD 0 none = some (p + 1)
  m1 : m.marks.getD 1 none = some (p + 2)

theorem hit (h : p + 1 < lim) (hc : text.getD p 0 = 92) (hd : escCode (text.getD (p + 1) 0) = true) :
    Found (M.runFor 10 (tryAt text lim p first must #[none, none, none, none] seen)) p := by
  rw [runFor_step _ _ rfl, lit_step (by omega)]
  have : (text.getD p 0 == 92) = true := by simpa using hc
  rw [this]
  have e1 : ({ tryAt text lim p first must #[none, none, none, none] seen with seen := seen.add 16, pc := 11, pos := p + 1 } : M).step.step =
      { tryAt text lim p first must #[some (p + 1), none, none, none] seen with
        seen := ((seen.add 16).add 7).add 17, pc := 15, pos := p + 1, handed := p + 1, lastmark := 0, lastindex := -1, weight := 2,
        frames := [{ wait := .nextBranch, pc := 12, pos := p + 1, outermost := first, kept := { lastmark := -1, lastindex := -1, whole := false, marks := #[] } },
          { wait := .nextStart, pc := 9, pos := p, outermost := first }] } := rfl
  rw [runFor_step _ _ rfl, runFor_step _ _ rfl, e1, runFor_step _ _ rfl]
  generalize hs : ((seen.add 16).add 7).add 17 = sn
  have e2 : ({ tryAt text lim p first must #[some (p + 1), none, none, none] seen with
        seen := sn, pc := 15, pos := p + 1, handed := p + 1, lastmark := 0, lastindex := -1, weight := 2,
        frames := [{ wait := .nextBranch, pc := 12, pos := p + 1, outermost := first, kept := { lastmark := -1, lastindex := -1, whole := false, marks := #[] } },
          { wait := .nextStart, pc := 9, pos := p, outermost := first }] } : M).step =
      (if p + 1 ≥ lim then M.say { tryAt text lim p first must #[some (p + 1), none, none, none] seen with
        seen := sn.add 13, pc := 15, pos := p + 1, handed := p + 1, lastmark := 0, lastindex := -1, weight := 2,
        frames := [{ wait := .nextBranch, pc := 12, pos := p + 1, outermost := first, kept := { lastmark := -1, lastindex := -1, whole := false, marks := #[] } },
          { wait := .nextStart, pc := 9, pos := p, outermost := first }] } false else
      match inSet codeC (text.getD (p + 1) 0) codeC.size 17 true (sn.add 13) with
      | .error why => M.stick { tryAt text lim p first must #[some (p + 1), none, none, none] seen with
        seen := sn.add 13, pc := 15, pos := p + 1, handed := p + 1, lastmark := 0, lastindex := -1, weight := 2,
        frames := [{ wait := .nextBranch, pc := 12, pos := p + 1, outermost := first, kept := { lastmark := -1, lastindex := -1, whole := false, marks := #[] } },
          { wait := .nextStart, pc := 9, pos := p, outermost := first }] } why
      | .ok (false, seen') => M.say { tryAt text lim p first must #[some (p + 1), none, none, none] seen with
        seen := seen', pc := 15, pos := p + 1, handed := p + 1, lastmark := 0, lastindex := -1, weight := 2,
        frames := [{ wait := .nextBranch, pc := 12, pos := p + 1, outermost := first, kept := { lastmark := -1, lastindex := -1, whole := false, marks := #[] } },
          { wait := .nextStart, pc := 9, pos := p, outermost := first }] } false
      | .ok (true, seen') => { tryAt text lim p first must #[some (p + 1), none, none, none] seen with
        seen := seen', pc := 27, pos := p + 2, handed := p + 1, lastmark := 0, lastindex := -1, weight := 2,
        frames := [{ wait := .nextBranch, pc := 12, pos := p + 1, outermost := first, kept := { lastmark := -1, lastindex := -1, whole := false, marks := #[] } },
          { wait := .nextStart, pc := 9, pos := p, outermost := first }] }) := rfl
  rw [e2, if_neg (by omega), set_esc hd]
  dsimp only
  generalize hs' : (sn.add 13).add 9 = sm
  have e3 : ({ tryAt text lim p first must #[some (p + 1), none, none, none] seen with
        seen := sm, pc := 27, pos := p + 2, handed := p + 1, lastmark := 0, lastindex := -1, weight := 2,
        frames := [{ wait := .nextBranch, pc := 12, pos := p + 1, outermost := first, kept := { lastmark := -1, lastindex := -1, whole := false, marks := #[] } },
          { wait := .nextStart, pc := 9, pos := p, outermost := first }] } : M).step.step =
     { tryAt text lim p first must #[some (p + 1), some (p + 2), none, none] seen with
        seen := (sm.add 17).add 15, pc := 85, pos := p + 2, handed := p + 1, lastmark := 1, lastindex := 1, weight := 2,
        frames := [{ wait := .nextBranch, pc := 12, pos := p + 1, outermost := first, kept := { lastmark := -1, lastindex := -1, whole := false, marks := #[] } },
          { wait := .nextStart, pc := 9, pos := p, outermost := first }] } := by kernel_rfl
  rw [runFor_step _ _ rfl, runFor_step _ _ rfl, e3, runFor_step _ _ rfl]
  generalize hs'' : (sm.add 17).add 15 = sk
  have e4 : ({ tryAt text lim p first must #[some (p + 1), some (p + 2), none, none] seen with
        seen := sk, pc := 85, pos := p + 2, handed := p + 1, lastmark := 1, lastindex := 1, weight := 2,
        frames := [{ wait := .nextBranch, pc := 12, pos := p + 1, outermost := first, kept := { lastmark := -1, lastindex := -1, whole := false, marks := #[] } },
          { wait := .nextStart, pc := 9, pos := p, outermost := first }] } : M).step =
      (if (first && ((false && p + 2 != lim) || (must && p + 2 == p))) = true then M.say { tryAt text lim p first must #[some (p + 1), some (p + 2), none, none] seen with
        seen := sk.add 1, pc := 85, pos := p + 2, handed := p + 1, lastmark := 1, lastindex := 1, weight := 2,
        frames := [{ wait := .nextBranch, pc := 12, pos := p + 1, outermost := first, kept := { lastmark := -1, lastindex := -1, whole := false, marks := #[] } },
          { wait := .nextStart, pc := 9, pos := p, outermost := first }] } false
      else M.say { tryAt text lim p first must #[some (p + 1), some (p + 2), none, none] seen with
        seen := sk.add 1, pc := 85, pos := p + 2, handed := p + 2, lastmark := 1, lastindex := 1, weight := 2,
        frames := [{ wait := .nextBranch, pc := 12, pos := p + 1, outermost := first, kept := { lastmark := -1, lastindex := -1, whole := false, marks := #[] } },
          { wait := .nextStart, pc := 9, pos := p, outermost := first }] } true) := rfl
  have hb : (p + 2 == p) = false := by simp
  rw [e4, hb, if_neg (by simp)]
  exact ⟨rfl, rfl, rfl, rfl, rfl, rfl, rfl⟩

theorem skips : ∀ (k : Nat) (p : Nat) (first must : Bool) (seen : Sre.Seen), p + k ≤ lim → (∀ i, p ≤ i → i < p + k → text.getD i 0 ≠ 92) →
    ∃ first' must' seen', M.runFor (2 * k) (tryAt text lim p first must marks seen) = tryAt text lim (p + k) first' must' marks seen'
  | 0, p, first, must, seen, _, _ => ⟨first, must, seen, rfl⟩
  | k + 1, p, first, must, seen, hk, hn => by
    obtain ⟨f', m', s', e⟩ := skips k (p + 1) false false (seen.add 16) (by omega) (fun i h1 h2 => hn i (by omega) (by omega))
    refine ⟨f', m', s', ?_⟩
    rw [show 2 * (k + 1) = 2 + 2 * k by omega, runFor_add, skip2 (by omega) (hn p (by omega) (by omega)), e]
    rw [show p + 1 + k = p + (k + 1) by omega]

theorem search_eq (start : Nat) (h : start + 2 ≤ lim) : ∃ seen, forSearch codeC text 2 start lim must = tryAt text lim start true must #[none, none, none, none] seen := by
  refine ⟨({} : Sre.Seen).add 14, ?_⟩
  have e : forSearch codeC text 2 start lim must =
    (if start > lim || decide (lim - start < 2) then M.say { code := codeC, text, lim, start := start, pc := 9, pos := start, handed := start, marks := Array.replicate (2 * 2) none, mustAdvance := must, seen := ({} : Sre.Seen).add 14 } false
     else tryAt text lim start true must (Array.replicate (2 * 2) none) (({} : Sre.Seen).add 14)) := by kernel_rfl
  rw [e, if_neg (by simp; omega)]
  rfl
theorem search_short (start : Nat) (h : lim < start + 2) : (M.runFor 1 (forSearch codeC text 2 start lim must)).outcome = some .failed := by
  have e : forSearch codeC text 2 start lim must =
    (if start > lim || decide (lim - start < 2) then M.say { code := codeC, text, lim, start := start, pc := 9, pos := start, handed := start, marks := Array.replicate (2 * 2) none, mustAdvance := must, seen := ({} : Sre.Seen).add 14 } false
     else tryAt text lim start true must (Array.replicate (2 * 2) none) (({} : Sre.Seen).add 14)) := by kernel_rfl
  rw [e, if_pos (by simp; omega), runFor_step _ _ rfl]
  rfl

/-- the first escape from start on stands at q -/
theorem search_hit (start q : Nat) (h1 : start ≤ q) (h2 : q + 1 < lim) (hn : ∀ i, start ≤ i → i < q → text.getD i 0 ≠ 92)
    (hc : text.getD q 0 = 92) (hd : escCode (text.getD (q + 1) 0) = true) : ∃ N, N ≤ 2 * lim + 10 ∧ Found (M.runFor N (forSearch codeC text 2 start lim must)) q := by
  obtain ⟨seen, e⟩ := search_eq (text := text) (must := must) start (by omega : start + 2 ≤ lim)
  obtain ⟨f', m', s', e'⟩ := skips (text := text) (lim := lim) (marks := #[none, none, none, none]) (q - start) start true must seen (by omega) (fun i a b => hn i a (by omega))
  refine ⟨2 * (q - start) + 10, by omega, ?_⟩
  rw [e, runFor_add, e', show start + (q - start) = q by omega]
  exact hit h2 hc hd
/-- no escape from start on -/
theorem search_none (start : Nat) (hn : ∀ i, start ≤ i → i < lim → text.getD i 0 ≠ 92) :
    ∃ N, N ≤ 2 * lim + 10 ∧ (M.runFor N (forSearch codeC text 2 start lim must)).outcome = some .failed := by
  by_cases h : start + 2 ≤ lim
  · obtain ⟨seen, e⟩ := search_eq (text := text) (must := must) start h
    obtain ⟨f', m', s', e'⟩ := skips (text := text) (lim := lim) (marks := #[none, none, none, none]) (lim - start) start true must seen (by omega) (fun i a b => hn i a (by omega))
    refine ⟨2 * (lim - start) + 3, by omega, ?_⟩
    rw [e, runFor_add, e', show start + (lim - start) = lim by omega]
    exact none3
  · exact ⟨1, by omega, search_short start (by omega)⟩
end
end Mine
end

section
open PySem PyProof.Rows
namespace Mine
open PySem.Builtin.Re
section
variable {M : Model} {A : Around} {E : Value → Shared → Prop} {s : Shared}

theorem reDrive_wp {Q : Sre.M → Shared → Prop} : ∀ (k n : Nat) (m : Sre.M), k < n → (Sre.M.runFor (4 * (k + 1)) m).outcome.isSome = true → Q (Sre.M.runFor (4 * (k + 1)) m) s →
    wpAny M A (reDrive n m) Q E s
  | k, 0, m, hk, _, _ => by omega
  | k, n + 1, m, hk, ho, hq => by
    rw [reDrive]
    show wpAny M A (if (Sre.M.runFor 4 m).outcome.isSome = true then pure (Sre.M.runFor 4 m) else (do rule "sre.turn"; reDrive n (Sre.M.runFor 4 m))) Q E s
    cases h : (Sre.M.runFor 4 m).outcome.isSome with
    | true =>
      rw [if_pos rfl]
      rw [show 4 * (k + 1) = 4 + 4 * k by omega, runFor_add, runFor_done _ _ h] at hq
      exact wpAny_pure hq
    | false =>
      rw [if_neg Bool.false_ne_true]
      refine wpAny_bind (wpAny_rule ?_)
      cases k with
      | zero => simp only [Nat.zero_add, Nat.mul_one] at ho; rw [h] at ho; cases ho
      | succ k =>
        rw [show 4 * (k + 1 + 1) = 4 + 4 * (k + 1) by omega, runFor_add] at ho hq
        exact reDrive_wp k n _ (by omega) ho hq

theorem skips_wp {α : Type} {Q : PUnit → Shared → Prop} {f : α → PUnit → Sem (ForInStep PUnit)} (hf : ∀ i (R : ForInStep PUnit → Shared → Prop), R (.yield ⟨⟩) s → wpAny M A (f i ⟨⟩) R E s) :
    ∀ (l : List α), Q ⟨⟩ s → wpAny M A (forIn l PUnit.unit f) Q E s
  | [], h => by rw [List.forIn_nil]; exact wpAny_pure h
  | i :: l, h => by
    rw [List.forIn_cons]
    exact wpAny_bind (hf i _ (skips_wp hf l h))

theorem reRunToEnd_wp {m m' : Sre.M} {N : Nat} {Q : Option Sre.M → Shared → Prop} (e : Sre.M.runFor N m = m') (hN : N < 2 ^ 60) (ho : m'.outcome.isSome = true)
    (hq : wpAny M A (match m'.outcome with
      | some .matched => pure (some m')
      | some .failed => pure none
      | some (.stuck why) => unsupported s!"_sre:{why}"
      | none => unsupported "internal:sre:no-outcome") Q E s) : wpAny M A (reRunToEnd m) Q E s := by
  have e4 : Sre.M.runFor (4 * (N + 1)) m = m' := by
    rw [show 4 * (N + 1) = N + (3 * N + 4) by omega, runFor_add, e, runFor_done _ _ ho]
  unfold reRunToEnd
  refine wpAny_bind (reDrive_wp N (2 ^ 64) m (by omega) (by rw [e4]; exact ho) ?_)
  rw [e4]
  refine wpAny_bind (skips_wp (fun i R hR => ?_) _ hq)
  cases m'.seen.has i with
  | true => exact wpAny_bind (wpAny_rule (wpAny_pure hR))
  | false => exact wpAny_pure hR
theorem reRun_hit {m m' : Sre.M} {N : Nat} {Q : Option Sre.M → Shared → Prop} (e : Sre.M.runFor N m = m') (hN : N < 2 ^ 60) (ho : m'.outcome = some .matched)
    (hq : Q (some m') s) : wpAny M A (reRunToEnd m) Q E s := reRunToEnd_wp e hN (by rw [ho]; rfl) (by rw [ho]; exact wpAny_pure hq)
theorem reRun_none {m m' : Sre.M} {N : Nat} {Q : Option Sre.M → Shared → Prop} (e : Sre.M.runFor N m = m') (hN : N < 2 ^ 60) (ho : m'.outcome = some .failed)
    (hq : Q none s) : wpAny M A (reRunToEnd m) Q E s := reRunToEnd_wp e hN (by rw [ho]; rfl) (by rw [ho]; exact wpAny_pure hq)
end
end Mine
end

section
open PySem PyProof.Rows
namespace Mine
open PySem.Builtin.Re

/-- the compiled pattern stands at pa, its words at ca -/
def PatAt (h : Heap) (pa ca : Addr) : Prop :=
  ∃ o oc v0 v1 v3 v4 items ep, h.get? pa = some o ∧ o.cls = .type "re.Pattern" ∧ o.data = .fields #[v0, v1, .int 2 0, v3, v4, .ref ca, .int 0 0] ∧
    h.get? ca = some oc ∧ oc.data = .seq items ep ∧ (items.map reRawOf).map (·.toNat) = codeC
theorem PatAt.keeps {h h' : Heap} {pa ca : Addr} (x : PatAt h pa ca) (k : ∀ b o, h.get? b = some o → h'.get? b = some o) : PatAt h' pa ca := by
  obtain ⟨o, oc, v0, v1, v3, v4, items, ep, a, b, c, d, e, f⟩ := x
  exact ⟨o, oc, v0, v1, v3, v4, items, ep, k _ _ a, b, c, k _ _ d, e, f⟩

section
variable {M : Model} {A : Around} {E : Value → Shared → Prop} {s : Shared} {pa ca : Addr} {x : Str} {t : Tok}

theorem reTextOf_str {Q : Array Nat × Nat → Shared → Prop} (h : Q (x.cps, 0) s) : wpAny M A (reTextOf (.str x t)) Q E s := wpAny_bind (wpAny_pure (wpAny_pure h))

theorem reWholeTarget_wp {Q : ReTarget → Shared → Prop} (hp : PatAt s.heap pa ca)
    (h : Q { pattern := .ref pa, string := .str x t, code := codeC, text := x.cps, kind := 0, groups := 2, pos := 0, lim := x.cps.size } s) :
    wpAny M A (reWholeTarget (.ref pa) (.str x t)) Q E s := by
  obtain ⟨o, oc, v0, v1, v3, v4, items, ep, ho, hc, hd, hoc, hdc, hm⟩ := hp
  unfold reWholeTarget
  refine wpAny_bind (wpAny_fieldsOf ho hd (wpAny_bind (reTextOf_str ?_)))
  show wpAny M A (do reNoCollectionInside (.str x t) 0; _) _ _ s
  refine wpAny_bind (wpAny_pure ?_)
  refine wpAny_bind ?_
  show wpAny M A (reRawItems (.ref ca)) _ _ s
  unfold reRawItems
  refine wpAny_bind (wpAny_seqItems hoc hdc (wpAny_pure (wpAny_pure ?_)))
  show Q { pattern := .ref pa, string := .str x t, code := (items.map reRawOf).map (·.toNat), text := x.cps, kind := 0, groups := 2, pos := 0, lim := x.cps.size } s
  rw [hm]; exact h

theorem reSlice_str {text : Array Nat} {b e : Nat} {Q : Value → Shared → Prop} (hsz : text.size ≤ sizeLine) (h : Q (.str ⟨text.extract b e⟩ s.toks) { s with toks := s.toks + 1 }) : wpAny M A (reSlice text 0 b e) Q E s := by
  unfold reSlice
  rw [if_pos (by rfl)]
  refine wpAny_mkStr h ?_
  show (text.extract b e).size ≤ sizeLine
  rw [Array.size_extract]; omega

abbrev tupObj (vs : List Value) : Obj := { cls := .type "tuple", data := .seq vs.toArray }
abbrev matchObj (x : Str) (t : Tok) (pa : Addr) (tup : Addr) : Obj := { cls := .type "re.Match", data := .fields #[.str x t, .ref pa, .int 0 0, .int x.cps.size 0, .int 1 0, .ref tup] }
abbrev spansOf (q : Nat) : List Value := [.int q 0, .int (q + 2 : Nat) 0, .int (q + 1 : Nat) 0, .int (q + 2 : Nat) 0, .int (-1) 0, .int (-1) 0]

theorem reNewMatch_wp {m : Sre.M} {q : Nat} {Q : Value → Shared → Prop} (hm : Found m q)
    (h : Q (.ref (s.heap.objs.size + 1)) { s with heap := (s.heap.push (tupObj (spansOf q))).push (matchObj x t pa s.heap.objs.size) }) :
    wpAny M A (reNewMatch (.ref pa) (.str x t) 2 0 x.cps.size m) Q E s := by
  have e2 : ((List.range 2).any fun g => match m.marks.getD (2 * g) none, m.marks.getD (2 * g + 1) none with | some b, some e => ((2 * g + 1 : Nat) : Int) ≤ m.lastmark && e < b | _, _ => false) = false := by
    show (_ || (_ || false)) = false
    rw [hm.lastmark]
    show ((match m.marks.getD 0 none, m.marks.getD 1 none with | some b, some e => decide (((2 * 0 + 1 : Nat) : Int) ≤ 1) && decide (e < b) | _, _ => false) || _) = false
    rw [hm.m0, hm.m1]
    have : decide (q + 2 < q + 1) = false := by simp
    dsimp only
    rw [this, Bool.and_false, Bool.false_or, Bool.or_false]
    cases m.marks.getD (2 * 1) none with
    | none => rfl
    | some b => cases m.marks.getD (2 * 1 + 1) none with
      | none => rfl
      | some e => rfl
  unfold reNewMatch
  show wpAny M A (if ((List.range 2).any fun g => match m.marks.getD (2 * g) none, m.marks.getD (2 * g + 1) none with | some b, some e => ((2 * g + 1 : Nat) : Int) ≤ m.lastmark && e < b | _, _ => false) = true then _ else _) Q E s
  rw [e2, if_neg Bool.false_ne_true]
  have e3 : ((List.range 2).flatMap fun g =>
      match if ((2 * g + 1 : Nat) : Int) ≤ m.lastmark then (m.marks.getD (2 * g) none, m.marks.getD (2 * g + 1) none) else (none, none) with
      | (some b, some e) => [rawInt b, rawInt e]
      | _ => [rawInt (-1), rawInt (-1)]) = [.int (q + 1 : Nat) 0, .int (q + 2 : Nat) 0, .int (-1) 0, .int (-1) 0] := by
    rw [hm.lastmark]
    show (match (m.marks.getD 0 none, m.marks.getD 1 none) with
      | (some b, some e) => [rawInt b, rawInt e]
      | _ => [rawInt (-1), rawInt (-1)]) ++ _ = _
    rw [hm.m0, hm.m1]
    rfl
  show wpAny M A (do
    let tup ← newTuple (rawInt m.start :: rawInt m.handed :: ((List.range 2).flatMap fun g =>
      match if ((2 * g + 1 : Nat) : Int) ≤ m.lastmark then (m.marks.getD (2 * g) none, m.marks.getD (2 * g + 1) none) else (none, none) with
      | (some b, some e) => [rawInt b, rawInt e]
      | _ => [rawInt (-1), rawInt (-1)]))
    newFields "re.Match" [.str x t, .ref pa, rawInt (0 : Nat), rawInt x.cps.size, rawInt m.lastindex, tup]) Q E s
  rw [e3, hm.start, hm.handed, hm.lastindex]
  refine wpAny_bind (wpAny_newObj_type ?_ (by show 6 ≤ sizeLine; decide))
  exact wpAny_newObj_type (by
    rw [Heap.size_push] at *
    exact h) (by show 6 ≤ sizeLine + 2; decide)
end
end Mine
end

section
open PySem PyProof.Rows
namespace Mine
open PySem.Builtin.Re

/-- the signs that are told by two -/
def special (c : Nat) : Bool := c == 92 || c == 10 || c == 34 || c == 13
def escTo (c : Nat) : Nat := if c = 10 then 110 else if c = 13 then 114 else c
def encC (c : Nat) : List Nat := if special c then [92, escTo c] else [c]
def encL (cs : List Nat) : List Nat := cs.flatMap encC
theorem encL_append (a b : List Nat) : encL (a ++ b) = encL a ++ encL b := by unfold encL; rw [List.flatMap_append]
theorem encL_plain : ∀ (cs : List Nat), (∀ c ∈ cs, special c = false) → encL cs = cs
  | [], _ => rfl
  | c :: r, h => by
    show encC c ++ encL r = c :: r
    rw [encL_plain r fun d hd => h d (List.mem_cons_of_mem _ hd)]
    unfold encC
    rw [h c List.mem_cons_self]
    rfl
theorem escTo_code {c : Nat} (h : special c = true) : escCode (escTo c) = true := by
  unfold special at h
  simp only [Bool.or_eq_true, beq_iff_eq] at h
  rcases h with ((rfl | rfl) | rfl) | rfl <;> rfl

theorem str_join_empty : ∀ (ys : List Str), (Str.join ⟨#[]⟩ ys).cps.toList = ys.flatMap (·.cps.toList)
  | [] => rfl
  | [x] => by show x.cps.toList = _; simp
  | x :: y :: r => by
    show ((x.cps ++ #[]) ++ (Str.join ⟨#[]⟩ (y :: r)).cps).toList = _
    have := str_join_empty (y :: r)
    rw [Array.toList_append, this]
    simp
theorem txt_join_empty (ys : List Str) : Txt.join ⟨#[]⟩ ys = ⟨(ys.flatMap (·.cps.toList)).toArray⟩ := by
  have e : Txt.join ⟨#[]⟩ ys = Str.join ⟨#[]⟩ ys := StrLaws.glued_eq_join _ _
  rw [e]
  have := str_join_empty ys
  cases h : Str.join ⟨#[]⟩ ys with
  | mk a => rw [h] at this; congr 1; rw [← this]

abbrev Keep (h h' : Heap) : Prop := ∀ b o, h.get? b = some o → h'.get? b = some o
theorem Keep.push (h : Heap) (o : Obj) : Keep h (h.push o) := fun _ _ e => Heap.get?_push_of_some o e

structure LoopSt (h₀ h : Heap) (l : Addr) (ys : List Str) : Prop where
  keep : Keep h₀ h
  fresh : h₀.get? l = none
  list : ∃ vs ep, StrsAre vs ys ∧ h.get? l = some { cls := .type "list", data := .seq vs.toArray ep }
theorem LoopSt.grow {h₀ h h' : Heap} {l : Addr} {ys : List Str} (L : LoopSt h₀ h l ys) (k : Keep h h') : LoopSt h₀ h' l ys :=
  ⟨fun b o e => k b o (L.keep b o e), L.fresh, let ⟨vs, ep, a, b⟩ := L.list; ⟨vs, ep, a, k _ _ b⟩⟩

section
variable {M : Model} {A : Around} {E : Value → Shared → Prop} {s : Shared}
theorem push_wp {h₀ : Heap} {l : Addr} {ys : List Str} {y : Str} {t : Tok} {Q : Unit → Shared → Prop} (L : LoopSt h₀ s.heap l ys) (hn : ys.length ≤ 1048576)
    (h : ∀ h', LoopSt h₀ h' l (ys ++ [y]) → Q () { s with heap := h' }) : wpAny M A (updateSeq l (·.push (.str y t))) Q E s := by
  obtain ⟨k, f, vs, ep, hv, hl⟩ := L
  have hsz : vs.toArray.size ≤ sizeLine := by
    rw [List.size_toArray, hv.len_eq]
    exact Nat.le_trans hn (by decide)
  refine wpAny_updateSeq hl rfl (h _ ⟨fun b o e => ?_, f, vs ++ [.str y t], ep + 1, hv.append' (.cons y t .nil), ?_⟩) hsz (by rw [Array.size_push]; omega)
  · rw [Heap.get?_update_other _ _ (fun (q : l = b) => by rw [q, e] at f; cases f)]
    exact k b o e
  · rw [Heap.get?_update_self _ hl rfl]
    have : (vs.toArray.push (Value.str y t)) = (vs ++ [Value.str y t]).toArray := by simp
    show some (Obj.mapSeq (·.push (.str y t)) _) = _
    unfold Obj.mapSeq
    dsimp only
    rw [this]
    have hne : ((vs ++ [Value.str y t]).toArray.size == vs.toArray.size) = false := by simp
    rw [hne]
    rfl
end
end Mine
end

section
open PySem PyProof.Rows
namespace Mine
open PySem.Builtin.Re

theorem entry_subloop : entryFor table "re.Pattern.sub.loop" = some Builtin.«re.Pattern.sub.loop» := entryFor_of_fast (by kernel_rfl)
theorem plain_subloop : plainId "re.Pattern.sub.loop" = true := by decide +kernel

def Answers (prog : Program) (w : World) (A : Around) (h₀ : Heap) (pa fa : Addr) (x : Str) (t : Tok) : Prop :=
  ∀ (s : Shared) (f tup : Addr) (q c : Nat) (R : Result → Shared → Prop), Keep h₀ s.heap → s.heap.get? f = some (matchObj x t pa tup) → s.heap.get? tup = some (tupObj (spansOf q)) →
    special c = true → x.cps[q + 1]? = some (escTo c) →
    (∀ t' h' k, Keep s.heap h' → R (.ok (.ret (.str ⟨#[c]⟩ t'))) { s with heap := h', toks := k }) → codeAny (model prog w) A (.call (.ref fa) ⟨[.ref f], []⟩) R s

abbrev loopArgs (pa fa l : Addr) (x : Str) (t : Tok) (n : Int) (done : Nat) (must : Bool) : Args :=
  ⟨[.ref pa, .str x t, .ref fa, rawInt 1, rawInt 0, rawInt n, rawInt done, rawInt done, .bool must, .ref l, .bool false], []⟩

theorem getD_toList (a : Array Nat) (i : Nat) : a.getD i 0 = a.toList.getD i 0 := by
  rw [List.getD_eq_getElem?_getD, Array.getElem?_toList, Array.getD_eq_getD_getElem?]

theorem split_special : ∀ cs : List Nat, (∀ c ∈ cs, special c = false) ∨ ∃ p c r, cs = p ++ c :: r ∧ (∀ d ∈ p, special d = false) ∧ special c = true
  | [] => .inl fun _ h => nomatch h
  | c :: r => by
    cases h : special c with
    | true => exact .inr ⟨[], c, r, rfl, (fun _ h => nomatch h), h⟩
    | false =>
      rcases split_special r with h' | ⟨p, d, r', e, hp, hd⟩
      · exact .inl fun d hd => by
          rcases List.mem_cons.mp hd with rfl | hd
          · exact h
          · exact h' d hd
      · exact .inr ⟨c :: p, d, r', by rw [e]; rfl, (fun d hd => by
          rcases List.mem_cons.mp hd with rfl | hd
          · exact h
          · exact hp d hd), hd⟩

theorem not92 {c : Nat} (h : special c = false) : c ≠ 92 := by
  rintro rfl
  cases h

section
variable {prog : Program} {w : World} {A : Around} {R : Result → Shared → Prop} {h₀ : Heap} {pa ca fa l : Addr} {x : Str} {t : Tok}

theorem slice_push {α : Type} {M : Model} {B : Around} {E : Value → Shared → Prop} {Q : α → Shared → Prop} {s : Shared} {text : Array Nat} {b e : Nat} {ys : List Str} {jp : PUnit → Sem α} (L : LoopSt h₀ s.heap l ys) (ht : text.size ≤ 65536) (hn : ys.length ≤ 1048576)
    (h : ∀ h' k ys', LoopSt h₀ h' l ys' → ys'.flatMap (·.cps.toList) = ys.flatMap (·.cps.toList) ++ (text.extract b e).toList → ys'.length ≤ ys.length + 1 → (b < e → ys'.length = ys.length + 1) → wpAny M B (jp ()) Q E { s with heap := h', toks := k }) :
    wpAny M B (if b < e then (do let v ← reSlice text 0 b e; let r ← updateSeq l (fun z => z.push v); jp r) else jp ()) Q E s := by
  by_cases hbe : b < e
  · rw [if_pos hbe]
    refine wpAny_bind (reSlice_str (Nat.le_trans ht (by decide)) (wpAny_bind (push_wp L hn fun h' L' => ?_)))
    exact h h' _ _ L' (by rw [List.flatMap_append]; simp) (by rw [List.length_append]; exact Nat.le_refl _) (fun _ => by rw [List.length_append]; rfl)
  · rw [if_neg hbe]
    have e0 : (text.extract b e).toList = [] := by
      rw [Array.toList_extract]
      simp
      omega
    exact h s.heap s.toks ys L (by rw [e0, List.append_nil]) (Nat.le_succ _) (fun q => absurd q hbe)

theorem loop_wp (hp : PatAt h₀ pa ca) (hx : x.cps.size ≤ 65536) (ans : Answers prog w A.in1 h₀ pa fa x t) :
    ∀ (n : Nat) (cs pre : List Nat) (ys : List Str) (s : Shared) (cnt : Int) (must : Bool), cs.length < n → x.cps.toList = encL pre ++ encL cs → ys.flatMap (·.cps.toList) = pre → ys.length ≤ 2 * pre.length →
      LoopSt h₀ s.heap l ys →
      (∀ t' h' k, Keep h₀ h' → R (.ok (.ret (.str ⟨(pre ++ cs).toArray⟩ t'))) { s with heap := h', toks := k }) →
      codeAny (model prog w) A (.builtin "re.Pattern.sub.loop" (loopArgs pa fa l x t cnt (encL pre).length must)) R s := by
  intro n
  induction n with
  | zero => intro cs _ _ _ _ _ hn; omega
  | succ n ih =>
    intro cs pre ys s cnt must hn hcs hys hyl L h
    have hsz : x.cps.size = (encL pre).length + (encL cs).length := by rw [← Array.length_toList, hcs, List.length_append]
    have hpre : pre.length ≤ (encL pre).length := by
      clear hcs hys hyl h hsz
      induction pre with
      | nil => exact Nat.le_refl _
      | cons c r ihr =>
        show r.length + 1 ≤ (encC c ++ encL r).length
        rw [List.length_append]
        have : 1 ≤ (encC c).length := by unfold encC; split <;> exact Nat.le_of_ble_eq_true rfl
        omega
    have hylen : ys.length ≤ 1048576 := by omega
    refine codeAny_builtin entry_subloop ?_
    rw [Around.under_plainId plain_subloop]
    unfold Builtin.«re.Pattern.sub.loop»
    refine wpAny_bind (reWholeTarget_wp (hp.keeps L.keep) ?_)
    refine wpAny_bind ?_
    show wpAny _ _ (reRunToEnd (Sre.forSearch codeC x.cps 2 (encL pre).length x.cps.size must)) _ _ s
    rcases split_special cs with hpl | ⟨p, c, r, e, hpl, hc⟩
    · -- no more escapes
      obtain ⟨N, hN, ho⟩ := search_none (text := x.cps) (lim := x.cps.size) (must := must) (encL pre).length (fun i h1 h2 => by
        rw [getD_toList, hcs, List.getD_eq_getElem?_getD, List.getElem?_append_right h1, encL_plain cs hpl]
        rw [encL_plain cs hpl] at hsz
        rw [List.getElem?_eq_getElem (by omega)]
        exact not92 (hpl _ (List.getElem_mem _)))
      refine reRun_none rfl (by omega) ho ?_
      dsimp only
      refine slice_push L hx hylen (fun h' k ys' L' hf hl1 _ => ?_)
      have hall : ys'.flatMap (·.cps.toList) = pre ++ cs := by
        rw [hf, hys, Array.toList_extract, List.extract_eq_take_drop, hcs, Int.toNat_natCast, List.drop_left, encL_plain cs hpl]
        rw [encL_plain cs hpl] at hsz
        rw [List.take_of_length_le (by omega)]
      have hlen : (ys'.map (·.length)).sum + ys'.length * 0 ≤ 16777216 := by
        have : (ys'.map (·.length)).sum = (ys'.flatMap (·.cps.toList)).length := by
          rw [List.length_flatMap]
          rfl
        rw [this, hall, List.length_append]
        rw [encL_plain cs hpl] at hsz
        omega
      have e00 : x.cps.extract 0 0 = #[] := by simp
      refine wpAny_bind (reSlice_str (Nat.le_trans hx (by decide)) ?_)
      rw [e00]
      obtain ⟨vs, ep, hv, hl⟩ := L'.list
      refine wpAny_bind (wpAny_seqItems hl rfl ?_)
      rw [Option.getD_some]
      cases hv with
      | nil =>
        rw [if_pos (by rfl)]
        refine wpAny_bind (wpAny_pure ?_)
        rw [if_neg Bool.false_ne_true]
        have hcs0 : pre ++ cs = [] := by rw [← hall]; rfl
        have h9 := h k h' (k + 1) L'.keep
        rw [hcs0] at h9
        exact wpAny_pure h9
      | cons y0 t0 hr =>
        rw [if_neg (by simp)]
        rw [show (if ((0 : Nat) == 0) = true then "str.join" else "bytes.join") = "str.join" from rfl]
        refine wpAny_bind (join_list (ys := y0 :: _) ⟨_, hl, rfl, _, rfl⟩ (.cons y0 t0 hr) hlen (fun t' k' => ?_))
        rw [if_neg Bool.false_ne_true, txt_join_empty, hall]
        exact wpAny_pure (h t' h' k' L'.keep)
    · -- the next escape
      subst e
      have henc : encL (p ++ c :: r) = p ++ (92 :: escTo c :: encL r) := by
        rw [encL_append, encL_plain p hpl]
        show p ++ (encC c ++ encL r) = _
        unfold encC
        rw [if_pos hc]
        rfl
      rw [henc] at hcs
      have hlen0 : x.cps.size = (encL pre).length + (p.length + (encL r).length + 2) := by
        rw [hsz, henc]
        simp only [List.length_append, List.length_cons]
        omega
      have at0 : ∀ i, x.cps.getD i 0 = (encL pre ++ (p ++ (92 :: escTo c :: encL r))).getD i 0 := fun i => by rw [getD_toList, hcs]
      have at1 : x.cps[(encL pre).length + p.length + 1]? = some (escTo c) := by
        rw [← Array.getElem?_toList, hcs, List.getElem?_append_right (by omega), List.getElem?_append_right (by omega)]
        rw [show (encL pre).length + p.length + 1 - (encL pre).length - p.length = 1 by omega]
        rfl
      obtain ⟨N, hN, hm⟩ := search_hit (text := x.cps) (lim := x.cps.size) (must := must) (encL pre).length ((encL pre).length + p.length) (Nat.le_add_right _ _) (by omega)
        (fun i h1 h2 => by
          rw [at0, List.getD_eq_getElem?_getD, List.getElem?_append_right h1, List.getElem?_append_left (by omega), List.getElem?_eq_getElem (by omega)]
          exact not92 (hpl _ (List.getElem_mem _)))
        (by
          rw [at0, List.getD_eq_getElem?_getD, List.getElem?_append_right (by omega), List.getElem?_append_right (by omega)]
          rw [show (encL pre).length + p.length - (encL pre).length - p.length = 0 by omega]
          rfl)
        (by
          rw [Array.getD_eq_getD_getElem?, at1]
          exact escTo_code hc)
      refine reRun_hit rfl (by omega) hm.out ?_
      generalize hmm : Sre.M.runFor N (Sre.forSearch codeC x.cps 2 (encL pre).length x.cps.size must) = m at hm
      dsimp only
      rw [hm.start, hm.handed]
      refine slice_push L hx hylen (fun h' k ys' L' hf hl1 _ => ?_)
      rw [if_neg (by decide)]
      refine wpAny_bind (reNewMatch_wp hm ?_)
      dsimp only
      rw [if_pos (by rfl)]
      refine wpAny_bind (wpAny_holding (wpAny_call ?_))
      have L2 := (L'.grow (Keep.push h' (tupObj (spansOf ((encL pre).length + p.length))))).grow (Keep.push _ (matchObj x t pa h'.objs.size))
      refine ans _ _ h'.objs.size ((encL pre).length + p.length) c _ L2.keep ?_ ?_ hc at1 (fun t' h'' k' hk => ?_)
      · have := Heap.get?_push_size (h'.push (tupObj (spansOf ((encL pre).length + p.length)))) (o := matchObj x t pa h'.objs.size) rfl
        rw [Heap.size_push] at this
        exact this
      · exact Keep.push _ _ _ _ (Heap.get?_push_size h' rfl)
      · have L3 := L2.grow hk
        dsimp only
        rw [if_pos (by rfl)]
        refine wpAny_bind (push_wp L3 (by omega) fun h3 L4 => wpAny_pure ⟨plainId_quiet plain_subloop _, ?_⟩)
        have e5 : (encL pre).length + p.length + 2 = (encL (pre ++ (p ++ [c]))).length := by
          rw [encL_append, encL_append, encL_plain p hpl]
          show _ = (encL pre ++ (p ++ (encC c ++ []))).length
          unfold encC
          rw [if_pos hc]
          simp only [List.length_append, List.length_cons, List.length_nil]
          omega
        generalize ((encL pre).length + p.length + 2 == (encL pre).length + p.length) = mu
        rw [e5]
        refine ih r (pre ++ (p ++ [c])) (ys' ++ [⟨#[c]⟩]) _ (cnt + 1) mu ?_ ?_ ?_ ?_ L4 ?_
        · simp only [List.length_append, List.length_cons] at hn
          omega
        · rw [hcs, encL_append, encL_append, encL_plain p hpl]
          show _ = (encL pre ++ (p ++ (encC c ++ []))) ++ encL r
          unfold encC
          rw [if_pos hc]
          simp
        · rw [List.flatMap_append, hf, hys, Array.toList_extract, List.extract_eq_take_drop, hcs, Int.toNat_natCast, List.drop_left]
          rw [show (encL pre).length + p.length - (encL pre).length = p.length by omega, List.take_left]
          simp
        · simp only [List.length_append, List.length_cons, List.length_nil]
          omega
        · intro t9 h9 k9 hk9
          have := h t9 h9 k9 hk9
          rw [show pre ++ (p ++ [c]) ++ r = pre ++ (p ++ c :: r) by simp]
          exact this
end
end Mine
end

section
open PySem PyProof.Rows
namespace Mine
open PySem.Builtin.Re

theorem slot_sub : Slot "re.Pattern" "sub" "re.Pattern.sub" :=
  .of (owner := "re.Pattern") (n := "sub") (by rw [typeLookup_type, builtinLookup_eq_fast]; kernel_rfl) (by decide +kernel) (by decide +kernel) (by decide +kernel)
    (by first | exact .inl (by decide +kernel) | exact .inr (by decide +kernel)) (by rw [isSubtype_type]; kernel_rfl)
theorem entry_sub : entryFor table "re.Pattern.sub" = some Builtin.«re.Pattern.sub» := entryFor_of_fast (by kernel_rfl)
theorem args_sub (a b c : Value) : argsOk "re.Pattern.sub" ⟨[a, b, c], []⟩ := by unfold argsOk; kernel_rfl
theorem fn_call : ∃ v, typeLookup (.type "function") "__call__" = pure (some v) := ⟨.builtin "function.__call__", by rw [typeLookup_type, builtinLookup_eq_fast]; kernel_rfl⟩
theorem str_not_bytearray : isSubtype (.type "str") (.type "bytearray") = pure false := by rw [isSubtype_type]; kernel_rfl
theorem named_sub (a b : Value) : reNamed "re.Pattern.sub" "sub" ["repl", "string", "count"] 2 [a, b] [] = pure [some a, some b, none] := by kernel_rfl

section
variable {prog : Program} {w : World} {A : Around} {E : Value → Shared → Prop} {s : Shared} {pa ca fa : Addr} {x : Str} {t : Tok} {cs : List Nat} {Q : Value → Shared → Prop}

theorem sub_wp (hp : PatAt s.heap pa ca) (hf : s.TypeIs (.ref fa) "function") (hx : x.cps.size ≤ 65536) (ans : Answers prog w A.in1 s.heap pa fa x t) (hcs : x.cps.toList = encL cs)
    (h : ∀ t' h' k, Keep s.heap h' → Q (.str ⟨cs.toArray⟩ t') { s with heap := h', toks := k }) :
    wpAny (model prog w) A (call (.builtin "re.Pattern.sub") [.ref pa, .ref fa, .str x t]) Q E s := by
  have hT : s.TypeIs (.ref pa) "re.Pattern" := by
    obtain ⟨o, oc, v0, v1, v3, v4, items, ep, a, b, c, d, e, f⟩ := hp
    exact ⟨o, a, b⟩
  refine wpAny_call (codeAny_call_builtin slot_sub.plain entry_sub (slot_sub.check _ _ _ _ _ _ _ _ hT (args_sub _ _ _) ?_))
  unfold Builtin.«re.Pattern.sub» reSubstitute
  refine wpAny_bind (wpAny_of_eq (named_sub _ _) ?_)
  refine wpAny_bind (m := pure 0) (wpAny_pure ?_)
  obtain ⟨cv, hcv⟩ := fn_call
  refine wpAny_bind (wpAny_specialOf hf hcv ?_)
  refine wpAny_bind (m := pure false) (wpAny_pure ?_)
  refine wpAny_bind (m := pure (Value.ref fa, 1)) (wpAny_pure ?_)
  refine wpAny_bind (wpAny_holding (reWholeTarget_wp hp ?_))
  refine wpAny_bind (m := reNotHeld "re.Pattern.sub" (.str x t)) ?_
  unfold reNotHeld
  refine wpAny_bind (wpAny_isInstance (typeIs_str _ _ _) str_not_bytearray ?_)
  refine wpAny_pure ?_
  refine wpAny_bind (m := newList []) (wpAny_newObj_type ?_ (Nat.zero_le _))
  refine wpAny_pure ⟨plainId_quiet plain_subloop _, ?_⟩
  refine loop_wp (ca := ca) (h₀ := s.heap) hp hx ans (cs.length + 1) cs [] [] _ 0 false (Nat.lt_succ_self _) hcs rfl (Nat.zero_le _) ⟨Keep.push _ _, ?_, [], 0, .nil, ?_⟩ ?_
  · cases e : s.heap.get? s.heap.objs.size with
    | none => rfl
    | some o => exact absurd (Heap.lt_size e) (Nat.lt_irrefl _)
  · exact Heap.get?_push_size _ rfl
  · exact h
end
end Mine
end

section
open PySem PyProof.Rows
namespace Mine
open PySem.Builtin.Re

theorem slot_groups : Slot "re.Match" "groups" "re.Match.groups" :=
  .of (owner := "re.Match") (n := "groups") (by rw [typeLookup_type, builtinLookup_eq_fast]; kernel_rfl) (by decide +kernel) (by decide +kernel) (by decide +kernel)
    (by first | exact .inl (by decide +kernel) | exact .inr (by decide +kernel)) (by rw [isSubtype_type]; kernel_rfl)
theorem entry_groups : entryFor table "re.Match.groups" = some Builtin.«re.Match.groups» := entryFor_of_fast (by kernel_rfl)
theorem args_groups (a : Value) : argsOk "re.Match.groups" ⟨[a], []⟩ := by unfold argsOk; kernel_rfl
theorem type_groups : typeOf (.builtin "re.Match.groups") = pure (.type "method_descriptor") := by kernel_rfl
theorem type_sub : typeOf (.builtin "re.Pattern.sub") = pure (.type "method_descriptor") := by kernel_rfl
theorem plainAttrs_match : PlainAttrs "re.Match" :=
  ⟨⟨"object.__getattribute__", by rw [typeLookup_type, builtinLookup_eq_fast]; kernel_rfl, by decide +kernel⟩, by rw [typeLookup_type, builtinLookup_eq_fast]; kernel_rfl⟩
theorem plainAttrs_pattern : PlainAttrs "re.Pattern" :=
  ⟨⟨"object.__getattribute__", by rw [typeLookup_type, builtinLookup_eq_fast]; kernel_rfl, by decide +kernel⟩, by rw [typeLookup_type, builtinLookup_eq_fast]; kernel_rfl⟩
theorem named_groups : reNamed "re.Match.groups" "groups" ["default"] 0 [] [] = pure [none] := by kernel_rfl

section
variable {prog : Program} {w : World} {A : Around} {E : Value → Shared → Prop} {s : Shared} {pa f tup : Addr} {x : Str} {t : Tok} {q c : Nat} {Q : Value → Shared → Prop}

theorem groups_wp (hf : s.heap.get? f = some (matchObj x t pa tup)) (ht : s.heap.get? tup = some (tupObj (spansOf q))) (hx : x.cps.size ≤ 65536) (hc : x.cps[q + 1]? = some c)
    (h : Q (.ref s.heap.objs.size) { s with heap := s.heap.push (tupObj [.str ⟨#[c]⟩ s.toks, .none]), toks := s.toks + 1 }) :
    wpAny (model prog w) A (call (.builtin "re.Match.groups") [.ref f]) Q E s := by
  refine wpAny_call_entry slot_groups ⟨_, hf, rfl⟩ entry_groups ?_ (args_groups _)
  unfold Builtin.«re.Match.groups» reWithDefault
  refine wpAny_bind (m := do
      let l ← reNamed "re.Match.groups" "groups" ["default"] 0 [] []
      match l with
      | [d] => do pure (← reFound (.ref f), d.getD .none)
      | _ => unsupported "internal:re:named") ?_
  refine wpAny_bind (wpAny_of_eq named_groups ?_)
  unfold reFound
  refine wpAny_bind (wpAny_bind (wpAny_fieldsOf hf rfl ?_))
  unfold reRawItems
  refine wpAny_bind (wpAny_bind (m := seqItems? (.ref tup)) (wpAny_seqItems ht rfl (wpAny_pure (wpAny_pure (wpAny_pure ?_)))))
  have es : Array.map reRawOf (spansOf q).toArray = #[(q : Int), (q + 2 : Nat), (q + 1 : Nat), (q + 2 : Nat), -1, -1] := by
    rw [List.map_toArray]
    rfl
  rw [Option.getD_some, es]
  have g1 : ∀ {R : Value → Shared → Prop}, R (.str ⟨#[c]⟩ s.toks) { s with toks := s.toks + 1 } → wpAny (model prog w) A.in1 (reGroupText ⟨#[.str x t, .ref pa, .int 0 0, .int x.cps.size 0, .int 1 0, .ref tup], #[q, (q + 2 : Nat), (q + 1 : Nat), (q + 2 : Nat), -1, -1]⟩ 1 .none) R E s := by
    intro R hR
    unfold reGroupText
    show wpAny _ _ (if (decide (((q + 1 : Nat) : Int) < 0) || decide (((q + 2 : Nat) : Int) < 0)) = true then pure Value.none else do
      let (text, kind) ← reTextOf (.str x t)
      reSlice text kind ((q + 1 : Nat) : Int).toNat ((q + 2 : Nat) : Int).toNat) _ _ s
    rw [if_neg (by simp; omega)]
    refine wpAny_bind (reTextOf_str (reSlice_str (Nat.le_trans hx (by decide)) ?_))
    have e : x.cps.extract ((q + 1 : Nat) : Int).toNat ((q + 2 : Nat) : Int).toNat = #[c] := by
      rw [Int.toNat_natCast, Int.toNat_natCast]
      apply Array.toList_inj.mp
      rw [Array.toList_extract, List.extract_eq_take_drop]
      have hc' : x.cps.toList[q + 1]? = some c := by rw [Array.getElem?_toList]; exact hc
      obtain ⟨hl, he⟩ := List.getElem?_eq_some_iff.mp hc'
      rw [show q + 2 - (q + 1) = 1 by omega, List.drop_eq_getElem_cons hl, he]
      rfl
    rw [e]
    exact hR
  have g2 : ∀ {R : Value → Shared → Prop} {s' : Shared}, R .none s' → wpAny (model prog w) A.in1 (reGroupText ⟨#[.str x t, .ref pa, .int 0 0, .int x.cps.size 0, .int 1 0, .ref tup], #[q, (q + 2 : Nat), (q + 1 : Nat), (q + 2 : Nat), -1, -1]⟩ 2 .none) R E s' := by
    intro R s' hR
    exact wpAny_pure hR
  have er : List.range ((#[(q : Int), (q + 2 : Nat), (q + 1 : Nat), (q + 2 : Nat), -1, -1] : Array Int).size / 2 - 1) = [0, 1] := by
    show List.range (6 / 2 - 1) = [0, 1]
    decide
  dsimp only
  rw [er]
  show wpAny _ _ (do
    let l ← List.mapM (fun g => reGroupText ⟨#[.str x t, .ref pa, .int 0 0, .int x.cps.size 0, .int 1 0, .ref tup], #[q, (q + 2 : Nat), (q + 1 : Nat), (q + 2 : Nat), -1, -1]⟩ (g + 1) .none) [0, 1]
    let v ← newTuple l
    ret v) _ _ s
  refine wpAny_bind ?_
  show wpAny _ _ (reGroupText _ 1 .none >>= fun a => reGroupText _ 2 .none >>= fun b => pure [a, b]) _ _ s
  refine wpAny_bind (g1 (wpAny_bind (g2 (wpAny_pure ?_))))
  refine wpAny_bind (wpAny_newObj_type (wpAny_pure ⟨_, rfl, h⟩) (by show 2 ≤ sizeLine; decide))
end
end Mine
end

section
open PySem PyProof.Rows PySem.W
namespace Mine
open PySem.Builtin.Re

/-- the def at place k of the text's top, as a run leaves it -/
def defAt (k : Nat) (pm cd : Value) : FuncData :=
  match PySem.Challenge.pw_ez0311_01.main.body[k]? with
  | some (.FunctionDef name args body _ _ _ scope _ _ _) => fnOf name name args body scope .none .none .none pm none cd .none
  | _ => default

abbrev escTab : List (PyData × PyData) := [(.str "t", .str "\t"), (.str "b", .str "\x08"), (.str "n", .str "\n"), (.str "r", .str "\r"), (.str "f", .str "\x0c"), (.str "\"", .str "\""), (.str "'", .str "'"), (.str "\\", .str "\\")]

theorem esc_look {c : Nat} (h : special c = true) : PySem.Spec.lookup (.str ⟨#[escTo c]⟩) escTab = some (.str ⟨#[c]⟩) := by
  unfold special at h
  simp only [Bool.or_eq_true, beq_iff_eq] at h
  rcases h with ((rfl | rfl) | rfl) | rfl <;> kernel_rfl

section
variable {prog : Program} {w : World} {A : Around} {h₀ : Heap} {pa fa ta : Addr} {x : Str} {t : Tok} {oc pm cd : Value} {od : Option Addr} {osl : Array (Option Value)} {mg : Str → Option Value}

theorem answers_wp (hT : StrTab prog w h₀ ta escTab) (hg : h₀.Ns mainGlobals mg) (hmg : mg (Str.ofString "_string_escape_map") = some (.ref ta)) (ho : h₀.get? fa = some ⟨oc, od, .func (defAt 5 pm cd), osl⟩) (hlim : h₀.NoLimit)
    (hcd : h₀.CodeRec cd (defAt 5 pm cd).qualname) (hroom : A.depth < recursionLimit) (hh : A.handled = none) (hx : x.cps.size ≤ 65536) : Answers prog w A h₀ pa fa x t := by
  intro s f tup q c R hk hf ht hc hq h
  refine codeAny_call_def (fd := defAt 5 pm cd) (binds := [(Str.ofString "match", .ref f)]) hroom (hk _ _ ho) rfl (hlim.keeps hk) (hcd.keeps hk) rfl (.of_eq (by rfl)) (by exact (by decide : ∀ y ∈ (defAt 5 .none .none).scope.names, y.2 ≠ .cell)) (fun y hy => by rw [List.mem_singleton] at hy; rw [hy]; rfl) (fun h₁ hn hk₁ => ?_)
  generalize hL : s.heap.objs.size = L at *
  have F : Fr s.heap L h₁ (fun y => ([(Str.ofString "match", Value.ref f)] : List (Str × Value)).reverse.lookup y) := ⟨hn, hk₁, Nat.le_of_eq hL⟩
  rw [show callEnv (defAt 5 pm cd) L fa = envOf (defAt 5 pm cd).qualname (defAt 5 pm cd).scope L fa cd from rfl]
  have hA : (A.deeper (envOf (defAt 5 pm cd).qualname (defAt 5 pm cd).scope L fa cd)).handled = none := hh
  refine wpAny_execs_cons (Assign_Tuple ?_)
  refine Call_method0 (by rfl) (by rfl) ?_
  refine ld F (v := .ref f) (by rfl) ?_
  refine ⟨"re.Match", "re.Match.groups", plainAttrs_match, slot_groups, type_groups, ⟨_, hk₁ _ _ hf, rfl⟩, (fun a e => by cases e; exact ⟨_, hk₁ _ _ hf, rfl⟩), ?_⟩
  refine Calls.callWith_builtin rfl (PySem.evalArgs_none ?_)
  refine groups_wp (hk₁ _ _ hf) (hk₁ _ _ ht) hx hq ?_
  have k2 : Keep h₁ (h₁.push (tupObj [.str ⟨#[escTo c]⟩ (s.toks + 1), .none])) := Keep.push _ _
  have F2 := F.push (tupObj [.str ⟨#[escTo c]⟩ (s.toks + 1), .none])
  refine unpack_ (items := #[.str ⟨#[escTo c]⟩ (s.toks + 1), .none]) F2 ⟨_, Heap.get?_push_size _ rfl, rfl, _, rfl⟩ hA (by rfl) (by rfl) (fun h3 F3 => ?_)
  refine wpAny_bind (wpAny_holding (assign_Name (st F3 (fun h4 F4 => ?_))))
  refine wpAny_bind (wpAny_holding (assign_Name (st F4 (fun h5 F5 => wpAny_pure ?_))))
  refine wpAny_execs_cons (wpAny_If (wpAny_isTrue_Compare1 ?_))
  refine ld F5 (v := .str ⟨#[escTo c]⟩ (s.toks + 1)) (by rfl) ?_
  refine wpAny_Constant_none (isnot_str_none (wpAny_truthy_bool ?_))
  rw [if_pos rfl]
  refine wpAny_execs_cons (wpAny_Return_some (Subscript_ ?_))
  refine ld_global_at F5 (hg.keeps hk) hmg ?_
  refine ld F5 (v := .str ⟨#[escTo c]⟩ (s.toks + 1)) (by rfl) ?_
  refine item_strTab ((hT.keep hk).keep F5.keep) (esc_look hc) (fun v hv => ?_)
  obtain ⟨tv, rfl⟩ := hv.str_inv
  exact h _ h5 _ F5.keep
end
end Mine
end

section
open PySem PyProof.Rows PySem.W
namespace Mine
open PySem.Builtin.Re

def repL (a : Nat) (zs : List Nat) (cs : List Nat) : List Nat := cs.flatMap fun c => if c = a then zs else [c]
theorem repL_append (a : Nat) (zs x y : List Nat) : repL a zs (x ++ y) = repL a zs x ++ repL a zs y := by unfold repL; rw [List.flatMap_append]
theorem repL_free (a : Nat) (zs : List Nat) : ∀ l : List Nat, a ∉ l → repL a zs l = l
  | [], _ => rfl
  | k :: r, h => by
    have h1 : ¬ k = a := fun e => h (e ▸ List.mem_cons_self ..)
    show (if k = a then zs else [k]) ++ repL a zs r = _
    rw [if_neg h1, repL_free a zs r (fun m => h (List.mem_cons_of_mem _ m))]
    rfl
theorem repL_join (a : Nat) (zs : List Nat) : ∀ parts : List Str, (∀ p ∈ parts, a ∉ p.cps.toList) → repL a zs (Str.join ⟨#[a]⟩ parts).cps.toList = (Str.join ⟨zs.toArray⟩ parts).cps.toList
  | [], _ => rfl
  | [p], h => repL_free a zs _ (h p (List.mem_singleton.mpr rfl))
  | p :: q :: r, h => by
    have ih := repL_join a zs (q :: r) fun b hb => h b (List.mem_cons_of_mem _ hb)
    show repL a zs (p ++ ⟨#[a]⟩ ++ Str.join ⟨#[a]⟩ (q :: r)).cps.toList = (p ++ ⟨zs.toArray⟩ ++ Str.join ⟨zs.toArray⟩ (q :: r)).cps.toList
    simp only [Str.cps_append, Array.toList_append]
    rw [repL_append, repL_append, ih, repL_free a zs _ (h p (List.mem_cons_self ..))]
    show p.cps.toList ++ repL a zs [a] ++ _ = _
    have : repL a zs [a] = zs := by simp [repL]
    rw [this]
theorem replace_is (cs zs : List Nat) (a : Nat) : Txt.replace ⟨cs.toArray⟩ ⟨#[a]⟩ ⟨zs.toArray⟩ = ⟨(repL a zs cs).toArray⟩ := by
  have h := repL_join a zs (Txt.split ⟨cs.toArray⟩ ⟨#[a]⟩) (StrLaws.split_free _ _)
  rw [StrLaws.join_split] at h
  rw [StrLaws.replace_one]
  cases e : Str.join ⟨zs.toArray⟩ (Txt.split ⟨cs.toArray⟩ ⟨#[a]⟩) with
  | mk b =>
    rw [e] at h
    congr 1
    exact Array.toList_inj.mp h.symm
theorem repL_len (a : Nat) (zs : List Nat) (n : Nat) (hz : zs.length ≤ n) (hn : 1 ≤ n) : ∀ cs : List Nat, (repL a zs cs).length ≤ n * cs.length
  | [] => Nat.le_refl _
  | c :: r => by
    show ((if c = a then zs else [c]) ++ repL a zs r).length ≤ n * (r.length + 1)
    have ih := repL_len a zs n hz hn r
    rw [List.length_append, Nat.mul_add]
    split
    · omega
    · show 1 + _ ≤ _
      omega

/-- the four replaces tell the text sign by sign -/
theorem reps_enc (cs : List Nat) : repL 13 [92, 114] (repL 34 [92, 34] (repL 10 [92, 110] (repL 92 [92, 92] cs))) = encL cs := by
  induction cs with
  | nil => rfl
  | cons c r ih =>
    show repL 13 [92, 114] (repL 34 [92, 34] (repL 10 [92, 110] ((if c = 92 then [92, 92] else [c]) ++ repL 92 [92, 92] r))) = encC c ++ encL r
    rw [repL_append, repL_append, repL_append, ih]
    congr 1
    by_cases h1 : c = 92
    · subst h1; rfl
    by_cases h2 : c = 10
    · subst h2; rfl
    by_cases h3 : c = 34
    · subst h3; rfl
    by_cases h4 : c = 13
    · subst h4; rfl
    have hs : special c = false := by simp [special, h1, h2, h3, h4]
    simp [repL, encC, hs, h1, h2, h3, h4]

theorem ofS_bs : Str.ofString "\\" = ⟨#[92]⟩ := by decide +kernel
theorem ofS_bsbs : Str.ofString "\\\\" = ⟨([92, 92] : List Nat).toArray⟩ := by decide +kernel
theorem ofS_nl : Str.ofString "\n" = ⟨#[10]⟩ := by decide +kernel
theorem ofS_bsn : Str.ofString "\\n" = ⟨([92, 110] : List Nat).toArray⟩ := by decide +kernel
theorem ofS_q : Str.ofString "\"" = ⟨#[34]⟩ := by decide +kernel
theorem ofS_bsq : Str.ofString "\\\"" = ⟨([92, 34] : List Nat).toArray⟩ := by decide +kernel
theorem ofS_cr : Str.ofString "\x0d" = ⟨#[13]⟩ := by decide +kernel
theorem ofS_bsr : Str.ofString "\\r" = ⟨([92, 114] : List Nat).toArray⟩ := by decide +kernel

section
variable {prog : Program} {w : World} {A : Around} {E : Value → Shared → Prop} {s : Shared} {cs zs : List Nat} {a : Nat} {t u v : Tok} {Q : Value → Shared → Prop}

theorem replace_wp (hu : 0 < u) (huv : u < v) (hn : cs.length ≤ 4000) (hz : zs.length ≤ 2) (hnb : NoneBooked s.heap)
    (hq : ∀ t' k, Q (.str ⟨(repL a zs cs).toArray⟩ t') { s with toks := k }) :
    wpAny (model prog w) A (call (.builtin "str.replace") [.str ⟨cs.toArray⟩ t, .str ⟨#[a]⟩ u, .str ⟨zs.toArray⟩ v]) Q E s := by
  refine SC.replaceW2 4000 4000 (by decide) (by show @Ne Nat _ _; exact Nat.ne_of_gt hu) (by show @Ne Nat _ _; exact Nat.ne_of_gt (Nat.lt_trans hu huv)) (by show @Ne Nat _ _; exact Nat.ne_of_lt huv) ?_ ?_ (fun t' k => ?_) hnb
  · show cs.toArray.size ≤ _
    rw [List.size_toArray]; exact hn
  · show zs.toArray.size ≤ _
    rw [List.size_toArray]; omega
  · rw [replace_is]
    exact hq t' k

theorem mod_quote {y : Str} (hy : y.length ≤ 1000000) (h : ∀ t' k, Q (.str (Str.ofString "\"" ++ y ++ Str.ofString "\"") t') { s with toks := k }) :
    wpAny (model prog w) A (binaryOp .Mod (.str (Str.ofString "\"%s\"") t) (.str y u)) Q E s := by
  refine' KPc.mod_str ?kpcF hy ?kpcm ?_
  case kpcF => kpc_eq
  case kpcm => kpc_run_s
  exact h
end
end Mine
end

section
open PySem PyProof.Rows PySem.W
namespace Mine
open PySem.Builtin.Re

section
variable {prog : Program} {w : World} {A : Around} {E : Value → Shared → Prop} {s : Shared} {cs zs : List Nat} {a : Nat} {t : Tok} {Q : Value → Shared → Prop} {env : Env}

theorem replace_tk {u v : Tok} (htk : 1 ≤ s.toks) (hu : 0 < u) (huv : u < v) (hn : cs.length ≤ 4000) (hz : zs.length ≤ 2) (hnb : NoneBooked s.heap)
    (hq : ∀ t' k, 1 ≤ k → Q (.str ⟨(repL a zs cs).toArray⟩ t') { s with toks := k }) :
    wpAny (model prog w) A (call (.builtin "str.replace") [.str ⟨cs.toArray⟩ t, .str ⟨#[a]⟩ u, .str ⟨zs.toArray⟩ v]) Q E s :=
  wpAny_with_toks (n := 1) htk (replace_wp hu huv hn hz hnb hq)

/-- one .replace of two written texts -/
theorem method_replace {X Y : String} {p1 p2 pos : Pos} {k1 k2 : Nat} (hX : Str.ofString X = ⟨#[a]⟩) (hY : Str.ofString Y = ⟨zs.toArray⟩) (htk : 1 ≤ s.toks) (hn : cs.length ≤ 4000) (hz : zs.length ≤ 2) (hnb : NoneBooked s.heap)
    (hq : ∀ t' k, 1 ≤ k → Q (.str ⟨(repL a zs cs).toArray⟩ t') { s with toks := k }) :
    MethodOnS prog w A E (Str.ofString "replace") (.str ⟨cs.toArray⟩ t) pos
      [(false, eval (.Constant (.str (Str.ofString X)) k1 p1) env), (false, eval (.Constant (.str (Str.ofString Y)) k2 p2) env)] Q s := by
  refine ⟨"str", "str.replace", F.plainAttrs_str, F.slot_str_replace, F.type_str_replace, typeIs_str _ _ _, (fun _ e => nomatch e), ?_⟩
  refine Calls.callWith_builtin rfl (Calls.evalArgs_plain (Calls.spliced_cons (Calls.Constant_str (Calls.spliced_cons (Calls.Constant_str (Calls.spliced_nil ?_))))))
  rw [hX, hY]
  exact replace_tk (Nat.le_succ_of_le (Nat.le_succ_of_le htk)) htk (Nat.lt_succ_self _) hn hz hnb (fun t' k hk => hq t' k hk)
end

section
variable {prog : Program} {w : World} {A : Around} {s : Shared} {cs : List Nat} {fa : Addr} {t : Tok} {oc pm cd : Value} {od : Option Addr} {osl : Array (Option Value)} {R : Result → Shared → Prop}

theorem quote_wp (ho : s.heap.get? fa = some ⟨oc, od, .func (defAt 2 pm cd), osl⟩) (hlim : s.heap.NoLimit)
    (hcd : s.heap.CodeRec cd (defAt 2 pm cd).qualname) (hroom : A.depth < recursionLimit) (hnb : NoneBooked s.heap) (hn : cs.length ≤ 63)
    (h : ∀ t' h' k, Keep s.heap h' → R (.ok (.ret (.str ⟨(34 :: (encL cs ++ [34])).toArray⟩ t'))) { s with heap := h', toks := k }) :
    codeAny (model prog w) A (.call (.ref fa) ⟨[.str ⟨cs.toArray⟩ t], []⟩) R s := by
  refine codeAny_call_def (fd := defAt 2 pm cd) (binds := [(Str.ofString "l_", .str ⟨cs.toArray⟩ t)]) hroom ho rfl hlim hcd rfl (.of_eq (by rfl)) (by exact (by decide : ∀ y ∈ (defAt 2 .none .none).scope.names, y.2 ≠ .cell)) (fun y hy => by rw [List.mem_singleton] at hy; rw [hy]; rfl) (fun h₁ hn₁ hk₁ => ?_)
  generalize hL : s.heap.objs.size = L at *
  have F : Fr s.heap L h₁ (fun y => ([(Str.ofString "l_", Value.str ⟨cs.toArray⟩ t)] : List (Str × Value)).reverse.lookup y) := ⟨hn₁, hk₁, Nat.le_of_eq hL⟩
  have hnb₁ : NoneBooked h₁ := let ⟨mc, a, b⟩ := hnb; ⟨mc, a.keeps hk₁, b⟩
  rw [show callEnv (defAt 2 pm cd) L fa = envOf (defAt 2 pm cd).qualname (defAt 2 pm cd).scope L fa cd from rfl]
  have l1 := repL_len 92 [92, 92] 2 (Nat.le_refl _) (by decide) cs
  have l2 := repL_len 10 [92, 110] 2 (Nat.le_refl _) (by decide) (repL 92 [92, 92] cs)
  have l3 := repL_len 34 [92, 34] 2 (Nat.le_refl _) (by decide) (repL 10 [92, 110] (repL 92 [92, 92] cs))
  have l4 := repL_len 13 [92, 114] 2 (Nat.le_refl _) (by decide) (repL 34 [92, 34] (repL 10 [92, 110] (repL 92 [92, 92] cs)))
  refine wpAny_execs_cons (wpAny_Return_some (wpAny_BinOp (Calls.Constant_str ?_)))
  refine Call_method2 (by rfl) (by rfl) (by rfl) ?_
  refine Call_method2 (by rfl) (by rfl) (by rfl) ?_
  refine Call_method2 (by rfl) (by rfl) (by rfl) ?_
  refine Call_method2 (by rfl) (by rfl) (by rfl) ?_
  refine ld F (v := .str ⟨cs.toArray⟩ t) (by rfl) ?_
  refine method_replace ofS_bs ofS_bsbs (Nat.succ_le_succ (Nat.zero_le _)) (by omega) (Nat.le_refl _) hnb₁ (fun t1 k1 hk1 => ?_)
  refine method_replace ofS_nl ofS_bsn hk1 (by omega) (Nat.le_refl _) hnb₁ (fun t2 k2 hk2 => ?_)
  refine method_replace ofS_q ofS_bsq hk2 (by omega) (Nat.le_refl _) hnb₁ (fun t3 k3 hk3 => ?_)
  refine method_replace ofS_cr ofS_bsr hk3 (by omega) (Nat.le_refl _) hnb₁ (fun t4 k4 hk4 => ?_)
  rw [reps_enc] at *
  refine mod_quote ?_ (fun t5 k5 => ?_)
  · show (encL cs).toArray.size ≤ _
    rw [List.size_toArray]; omega
  · have e : Str.ofString "\"" ++ (⟨(encL cs).toArray⟩ : Str) ++ Str.ofString "\"" = ⟨(34 :: (encL cs ++ [34])).toArray⟩ := by
      rw [ofS_q]
      refine Str.ext' (Array.toList_inj.mp ?_)
      rw [Str.cps_append, Str.cps_append, Array.toList_append, Array.toList_append]
      simp
    rw [e]
    exact h t5 h₁ k5 hk₁
end
end Mine
end

section
open PySem PyProof.Rows PySem.W
namespace Mine
open PySem.Builtin.Re

theorem enc_plain_of {cs : List Nat} (h : 92 ∉ encL cs) : ∀ c ∈ cs, special c = false := fun c hc => by
  cases hs : special c with
  | false => rfl
  | true =>
    refine absurd ?_ h
    unfold encL
    refine List.mem_flatMap.mpr ⟨c, hc, ?_⟩
    unfold encC
    rw [if_pos hs]
    exact List.mem_cons_self

/-- what the text's top has laid, as far as the decoder asks -/
structure Laid (prog : Program) (w : World) (mg : Str → Option Value) (h : Heap) (pa ca sa ta : Addr) (oc pm cd : Value) (od : Option Addr) (osl : Array (Option Value)) : Prop where
  glob : h.Ns mainGlobals mg
  pat : PatAt h pa ca
  patO : ∃ o, h.get? pa = some o ∧ o.dict = none
  gPat : mg (Str.ofString "_turtle_escape_pattern") = some (.ref pa)
  gSub : mg (Str.ofString "_turtle_escape_subber") = some (.ref sa)
  gMap : mg (Str.ofString "_string_escape_map") = some (.ref ta)
  tab : StrTab prog w h ta escTab
  sub : h.get? sa = some ⟨oc, od, .func (defAt 5 pm cd), osl⟩
  subT : oc = .type "function"
  code : h.CodeRec cd (defAt 5 pm cd).qualname
  lim : h.NoLimit
theorem Laid.keeps {prog : Program} {w : World} {mg : Str → Option Value} {h h' : Heap} {pa ca sa ta : Addr} {oc pm cd : Value} {od : Option Addr} {osl : Array (Option Value)} (x : Laid prog w mg h pa ca sa ta oc pm cd od osl) (k : Keep h h') : Laid prog w mg h' pa ca sa ta oc pm cd od osl :=
  ⟨x.glob.keeps k, x.pat.keeps k, (let ⟨o, a, b⟩ := x.patO; ⟨o, k _ _ a, b⟩), x.gPat, x.gSub, x.gMap, x.tab.keep k, k _ _ x.sub, x.subT, x.code.keeps k, x.lim.keeps k⟩

section
variable {prog : Program} {w : World} {A : Around} {s : Shared} {cs : List Nat} {fa pa ca sa ta : Addr} {t : Tok} {oc pm cd soc spm scd : Value} {od sod : Option Addr} {osl sosl : Array (Option Value)} {R : Result → Shared → Prop} {mg : Str → Option Value}

theorem decode_wp (ho : s.heap.get? fa = some ⟨oc, od, .func (defAt 7 pm cd), osl⟩) (Y : Laid prog w mg s.heap pa ca sa ta soc spm scd sod sosl)
    (hcd : s.heap.CodeRec cd (defAt 7 pm cd).qualname) (hroom : A.depth + 1 < recursionLimit) (hh : A.handled = none) (hn : cs.length ≤ 63)
    (h : ∀ t' h' k, Keep s.heap h' → R (.ok (.ret (.str ⟨cs.toArray⟩ t'))) { s with heap := h', toks := k }) :
    codeAny (model prog w) A (.call (.ref fa) ⟨[.str ⟨(encL cs).toArray⟩ t], []⟩) R s := by
  have hl : (encL cs).length ≤ 65536 := by
    have : (encL cs).length ≤ 2 * cs.length := by
      clear h hn
      induction cs with
      | nil => exact Nat.le_refl _
      | cons c r ih =>
        show (encC c ++ encL r).length ≤ 2 * (r.length + 1)
        have : (encC c).length ≤ 2 := by unfold encC; split <;> exact Nat.le_of_ble_eq_true rfl
        rw [List.length_append]
        omega
    omega
  refine codeAny_call_def (fd := defAt 7 pm cd) (binds := [(Str.ofString "escaped", .str ⟨(encL cs).toArray⟩ t)]) (by omega) ho rfl Y.lim hcd rfl (.of_eq (by rfl)) (by exact (by decide : ∀ y ∈ (defAt 7 .none .none).scope.names, y.2 ≠ .cell)) (fun y hy => by rw [List.mem_singleton] at hy; rw [hy]; rfl) (fun h₁ hn₁ hk₁ => ?_)
  generalize hL : s.heap.objs.size = L at *
  have F : Fr s.heap L h₁ (fun y => ([(Str.ofString "escaped", Value.str ⟨(encL cs).toArray⟩ t)] : List (Str × Value)).reverse.lookup y) := ⟨hn₁, hk₁, Nat.le_of_eq hL⟩
  have Y₁ := Y.keeps hk₁
  rw [show callEnv (defAt 7 pm cd) L fa = envOf (defAt 7 pm cd).qualname (defAt 7 pm cd).scope L fa cd from rfl]
  refine wpAny_execs_cons (wpAny_If (wpAny_isTrue_Compare1 (Calls.Constant_str ?_)))
  refine ld F (v := .str ⟨(encL cs).toArray⟩ t) (by rfl) ?_
  rw [ofS_bs]
  refine PyProof.Rows.notIn_str ?_
  rw [StrLaws.found_one]
  refine wpAny_truthy_bool ?_
  by_cases hm : 92 ∈ encL cs
  · have e : (!decide (92 ∈ (⟨(encL cs).toArray⟩ : Str).cps.toList)) = false := by simp [hm]
    rw [e, if_neg Bool.false_ne_true]
    refine wpAny_execs_nil ?_
    refine wpAny_execs_cons (wpAny_Return_some ?_)
    refine Call_method2 (by rfl) (by rfl) (by rfl) ?_
    refine ld_global_at F Y.glob Y.gPat ?_
    refine ⟨"re.Pattern", "re.Pattern.sub", plainAttrs_pattern, slot_sub, type_sub, ?_, ?_, ?_⟩
    · obtain ⟨o, _, _, _, _, _, _, _, a, b, _⟩ := Y₁.pat
      exact ⟨o, a, b⟩
    · intro a e
      cases e
      exact Y₁.patO
    · refine Calls.callWith_builtin rfl (Calls.evalArgs_plain (Calls.spliced_cons ?_))
      refine ld_global_at F Y.glob Y.gSub ?_
      refine Calls.spliced_cons ?_
      refine ld F (v := .str ⟨(encL cs).toArray⟩ t) (by rfl) ?_
      refine Calls.spliced_nil ?_
      refine sub_wp (ca := ca) (cs := cs) Y₁.pat ⟨_, Y₁.sub, Y₁.subT⟩ (by show (encL cs).toArray.size ≤ _; rw [List.size_toArray]; exact hl)
        (answers_wp Y₁.tab Y₁.glob Y₁.gMap Y₁.sub Y₁.lim Y₁.code (by exact hroom) (by exact hh) (by show (encL cs).toArray.size ≤ _; rw [List.size_toArray]; exact hl)) rfl (fun t' h' k hk => ?_)
      exact h t' h' k (fun b o e => hk b o (hk₁ b o e))
  · have e : (!decide (92 ∈ (⟨(encL cs).toArray⟩ : Str).cps.toList)) = true := by simp [hm]
    rw [e, if_pos rfl]
    refine wpAny_execs_cons (wpAny_Return_some ?_)
    refine ld F (v := .str ⟨(encL cs).toArray⟩ t) (by rfl) ?_
    have e2 := encL_plain cs (enc_plain_of hm)
    show R (.ok (.ret (.str ⟨(encL cs).toArray⟩ t))) _
    rw [e2]
    exact h t h₁ _ hk₁
end
end Mine
end

section
open PySem PyProof.Rows PySem.W
namespace Mine

def lawBody : List Stmt := match PySem.Challenge.pw_ez0311_01.main.body[(10 : Nat)]? with
  | some (.FunctionDef _ _ body _ _ _ _ _ _ _) => body
  | _ => []
def lawScope : Scope := match PySem.Challenge.pw_ez0311_01.main.body[(10 : Nat)]? with
  | some (.FunctionDef _ _ _ _ _ _ scope _ _ _) => scope
  | _ => default
def forBody : List Stmt := match lawBody[(3 : Nat)]? with
  | some (.For _ _ body _ _) => body
  | _ => []

abbrev encTab : List (PyData × PyData) := [(.str (Str.ofString "\\"), .str (Str.ofString "\\\\")), (.str (Str.ofString "\""), .str (Str.ofString "\\\"")), (.str (Str.ofString "\n"), .str (Str.ofString "\\n")), (.str (Str.ofString "\x0d"), .str (Str.ofString "\\r"))]

theorem enc_look (c : Nat) : (PySem.Spec.lookup (.str ⟨#[c]⟩) encTab).getD (.str ⟨#[c]⟩) = .str ⟨(encC c).toArray⟩ := by
  by_cases h1 : c = 92
  · subst h1; kernel_rfl
  by_cases h2 : c = 10
  · subst h2; kernel_rfl
  by_cases h3 : c = 34
  · subst h3; kernel_rfl
  by_cases h4 : c = 13
  · subst h4; kernel_rfl
  have hs : special c = false := by simp [special, h1, h2, h3, h4]
  have ne : ∀ a, a ≠ c → PySem.Spec.same (.str ⟨#[a]⟩) (.str ⟨#[c]⟩) = false := fun a ha => by
    rw [PyProof.V.same_str]
    simpa using ha
  unfold encTab
  rw [ofS_bs, ofS_q, ofS_nl, ofS_cr]
  unfold PySem.Spec.lookup
  rw [ne 92 (Ne.symm h1), if_neg Bool.false_ne_true]
  unfold PySem.Spec.lookup
  rw [ne 34 (Ne.symm h3), if_neg Bool.false_ne_true]
  unfold PySem.Spec.lookup
  rw [ne 10 (Ne.symm h2), if_neg Bool.false_ne_true]
  unfold PySem.Spec.lookup
  rw [ne 13 (Ne.symm h4), if_neg Bool.false_ne_true]
  unfold PySem.Spec.lookup encC
  rw [hs]
  rfl

theorem base_dict (ks : List (Option Expr)) (es : List Expr) (p : Pos) (n : Str) (env : Env) (x : Sem Value) : attributeBase (.Dict ks es p) n env x = x := rfl
theorem any_one (x : Sem Value) : ([(false, x)] : List (Bool × Sem Value)).any (·.1) = false := rfl
theorem any_two (x y : Sem Value) : ([(false, x), (false, y)] : List (Bool × Sem Value)).any (·.1) = false := rfl
theorem method_one {prog : Program} {w : World} {A : Around} {E : Value → Shared → Prop} {s : Shared} {id : String} {self : Value} {x : Sem Value} {pos : Pos} {Q : Value → Shared → Prop}
    (h : wpAny (model prog w) A x (fun v s₁ => wpAny (model prog w) A (call (.builtin id) [self, v]) Q E s₁) E s) : wpAny (model prog w) A (callWith pos (.builtin id) [self] [(false, x)] []) Q E s :=
  Calls.callWith_builtin (any_one _) (Calls.evalArgs_plain (Calls.spliced_cons (wpAny_mono h (fun _ _ h₁ => Calls.spliced_nil h₁) fun _ _ e => e)))
theorem method_two {prog : Program} {w : World} {A : Around} {E : Value → Shared → Prop} {s : Shared} {id : String} {self : Value} {x y : Sem Value} {pos : Pos} {Q : Value → Shared → Prop}
    (h : wpAny (model prog w) A x (fun v s₁ => wpAny (model prog w) A y (fun u s₂ => wpAny (model prog w) A (call (.builtin id) [self, v, u]) Q E s₂) E s₁) E s) : wpAny (model prog w) A (callWith pos (.builtin id) [self] [(false, x), (false, y)] []) Q E s :=
  Calls.callWith_builtin (any_two _ _) (Calls.evalArgs_plain (Calls.spliced_cons (wpAny_mono h (fun _ _ h₁ => Calls.spliced_cons (wpAny_mono h₁ (fun _ _ h₂ => Calls.spliced_nil h₂) fun _ _ e => e)) fun _ _ e => e)))

section
variable {prog : Program} {w : World} {A : Around} {E : Value → Shared → Prop} {s : Shared} {h₀ : Heap} {L fa D : Addr} {m : Str → Option Value} {nm : Str} {cd : Value} {own : List (Addr × Obj)} {vs : List Value} {n c : Nat} {t : Tok} {Q : Flow → Shared → Prop}

theorem turn_wp (F : Fr h₀ L s.heap m) (N : News h₀ L s.heap ((D, { cls := .type "list", data := .seq vs.toArray n }) :: own)) (hown : ∀ p ∈ own, p.1 ≠ D)
    (hs : m (Str.ofString "sign") = some (.str ⟨#[c]⟩ t)) (hd : m (Str.ofString "due") = some (.ref D)) (hlen : vs.length ≤ 1000) (hlim : h₀.NoLimit)
    (h : ∀ h' k e, Fr h₀ L h' m → News h₀ L h' ((D, { cls := .type "list", data := .seq (vs ++ [Value.str ⟨(encC c).toArray⟩ e]).toArray (n + 1) }) :: own) → Q .next { s with heap := h', toks := k }) :
    wpAny (model prog w) A (execs forBody (envOf nm lawScope L fa cd)) Q E s := by
  have hDn : s.heap.get? D = some { cls := .type "list", data := .seq vs.toArray n } := N.get (.head _)
  dsimp only [forBody, lawBody, PySem.Challenge.pw_ez0311_01, List.getElem?_cons_succ, List.getElem?_cons_zero]
  refine wpAny_execs_cons (wpAny_Expr ?_)
  refine Call_method1 (by rfl) (by rfl) (by rfl) ?_
  refine ld F hd ?_
  refine ⟨"list", "list.append", PySem.F.plainAttrs_list, slot_list_append, type_list_append, ⟨_, hDn, rfl⟩, (fun a e => by cases e; exact ⟨_, hDn, rfl⟩), ?_⟩
  refine method_one ?_
  refine Call_method2 ?h1 ?h2 ?h3 ?_
  case h1 => exact base_dict _ _ _ _ _ _
  case h2 => rfl
  case h3 => rfl
  refine Dict_lits_str (D := encTab) (by rfl) (by decide) (by decide +kernel) (by rfl) (by rfl) (by simp) (by decide) (fun a o h₁ tk ha ho hT hk => ?_)
  obtain ⟨kvs, hd1, hf1⟩ := hT
  have hx : o.ExactDict := let ⟨_, _, e, _⟩ := hd1; e
  have hmod : (a == sysModules) = false := by
    obtain ⟨mc, hmc, _⟩ := hlim.keeps F.keep
    have h2 := hmc.lt
    have h3 : sysModules < cStatics := by decide
    exact beq_false_of_ne (Nat.ne_of_gt (Nat.lt_of_lt_of_le (Nat.lt_trans h3 h2) ha))
  have T : StrTab prog w h₁ a encTab := TabAt.ofObj hmod ho hd1 hf1
  have F₁ : Fr h₀ L h₁ m := ⟨F.ns.keeps hk, fun b o e => hk b o (F.keep b o e), F.above⟩
  have N₁ : News h₀ L h₁ ((D, { cls := .type "list", data := .seq vs.toArray n }) :: own) := N.grown hk
  refine ⟨"dict", "dict.get", PySem.F.plainAttrs_dict, PySem.F.slot_dict_get, PySem.F.type_dict_get, ⟨o, ho, hx.1⟩, (fun b e => by cases e; exact ⟨o, ho, hx.2.1⟩), ?_⟩
  refine method_two ?_
  refine ld F₁ hs ?_
  refine ld F₁ hs ?_
  refine call_get2_strTab T (.str _ _) (fun v hv => ?_)
  rw [enc_look] at hv
  obtain ⟨e, rfl⟩ := hv.str_inv
  refine append_head F₁ N₁ hown (fun h' F' N' => ?_) (by rw [List.size_toArray]; exact Nat.le_trans hlen (by decide))
  refine wpAny_execs_nil ?_
  refine h h' _ e F' ?_
  have : (vs.toArray.push (Value.str ⟨(encC c).toArray⟩ e)) = (vs ++ [Value.str ⟨(encC c).toArray⟩ e]).toArray := by simp
  rw [this] at N'
  exact N'
end
end Mine
end

section
open PySem PyProof.Rows PySem.W
namespace Mine

def forStmt : Stmt := match lawBody[(3 : Nat)]? with
  | some st => st
  | _ => .Pass default
def encI (i : Int) : Str := ⟨(encC i.toNat).toArray⟩

section
variable {prog : Program} {w : World} {A : Around} {s : Shared} {h₀ : Heap} {L fa D : Addr} {m : Str → Option Value} {nm : Str} {cd : Value} {cs : List Nat} {t : Tok} {Q : Flow → Shared → Prop}

theorem for_wp (F : Fr h₀ L s.heap m) (N : News h₀ L s.heap [(D, { cls := .type "list", data := .seq ([] : List Value).toArray 0 })]) (hA : A.handled = none)
    (ht : m (Str.ofString "text") = some (.str ⟨cs.toArray⟩ t)) (hd : m (Str.ofString "due") = some (.ref D)) (hlim : h₀.NoLimit) (hlen : cs.length ≤ 63)
    (h : ∀ h' k vs n m', Fr h₀ L h' m' → News h₀ L h' [(D, { cls := .type "list", data := .seq vs.toArray n })] → StrsAre vs (cs.map fun c => ⟨(encC c).toArray⟩) → (∀ z, z ≠ Str.ofString "sign" → m' z = m z) → Q .next { s with heap := h', toks := k }) :
    wpAny (model prog w) A (exec forStmt (envOf nm lawScope L fa cd)) Q (fun _ _ => False) s := by
  have e0 : forStmt = forStmt := rfl
  dsimp only [forStmt, lawBody, PySem.Challenge.pw_ez0311_01, List.getElem?_cons_succ, List.getElem?_cons_zero]
  refine For_invVF F (by rfl) (by rfl) ?_ (hE := PassesOwn.never)
  refine ld F ht ?_
  have hcodes : (KStt.codes ⟨cs.toArray⟩).map encI = cs.map fun c => (⟨(encC c).toArray⟩ : Str) := by
    unfold KStt.codes
    rw [List.map_map]
    refine List.map_congr_left fun c _ => ?_
    show (⟨(encC ((c : Int).toNat)).toArray⟩ : Str) = _
    rw [Int.toNat_natCast]
  have hcl : (KStt.codes ⟨cs.toArray⟩).length = cs.length := by
    rw [KStt.codes_length]
    show cs.toArray.size = _
    rw [List.size_toArray]
  refine KStt.kst_text (σ := List Value × Nat) (fun c => [(D, { cls := .type "list", data := .seq c.1.toArray c.2 })]) (fun _ => []) (fun _ => True) [] (fun pre c => StrsAre c.1 (pre.map encI)) ([], 0)
    hA F N trivial (fun p hp => nomatch hp) .nil ?_ ?_
  · intro c pre post nn t' u h' tk own he hoff _ hp F' N'
    refine turn_wp (D := D) (own := own) (vs := c.1) (n := c.2) (c := nn) (t := t') F' N' (fun p hp' => hoff p hp' D (.head _)) (by rfl) ?_ ?_ hlim (fun h2 k e F2 N2 => ?_)
    · show (if Str.ofString "due" = Str.ofString "sign" then _ else m (Str.ofString "due")) = _
      rw [if_neg (by decide +kernel)]
      exact hd
    · have h1 := hp.len_eq
      rw [List.length_map] at h1
      have h2 : (KStt.codes ⟨cs.toArray⟩).length = pre.length + (post.length + 1) := by rw [he, List.length_append, List.length_cons]
      omega
    · refine InvEndN.intro F2 N2 (nx := [(D, { cls := .type "list", data := .seq (c.1 ++ [Value.str ⟨(encC nn).toArray⟩ e]).toArray (c.2 + 1) })]) ⟨(c.1 ++ [Value.str ⟨(encC nn).toArray⟩ e], c.2 + 1), rfl, trivial, (fun p hp => nomatch hp), ?_, ?_⟩ rfl ?_ ?_
      · intro z hz _ _
        show (if z = Str.ofString "sign" then _ else m z) = m z
        rw [if_neg hz]
      · show StrsAre _ ((pre ++ [(nn : Int)]).map encI)
        rw [List.map_append]
        exact hp.append' (.cons _ _ .nil)
      · intro p hp
        rw [List.mem_singleton] at hp
        rw [hp]; exact .head _
      · intro p hp
        exact .tail _ hp
  · intro c u h' tk _ hp F' N'
    refine h h' tk c.1 c.2 _ F' N' ?_ ?_
    · rw [hcodes] at hp
      exact hp
    · intro z hz
      show (if z = Str.ofString "sign" then _ else m z) = m z
      rw [if_neg hz]
end
end Mine
end

section
open PySem PyProof.Rows PySem.W
namespace Mine

abbrev toldOf (cs : List Nat) : Str := ⟨(34 :: (encL cs ++ [34])).toArray⟩

theorem slice_mid (b : List Nat) : Txt.slice ⟨(34 :: (b ++ [34])).toArray⟩ (some ((1 : Nat) : Int)) (some ((b.length + 1 : Nat) : Int)) = ⟨b.toArray⟩ := by
  have hl : (⟨(34 :: (b ++ [34])).toArray⟩ : Str).length = b.length + 2 := by
    show (34 :: (b ++ [34])).toArray.size = _
    rw [List.size_toArray]
    simp
  unfold Txt.slice
  rw [StrLaws.sliced_plain _ (Nat.le_add_left 1 b.length) (by omega), hl, StrLaws.strSliceIndices_plain (Nat.le_add_left 1 b.length) (by omega)]
  rw [if_neg (by simp)]
  congr 1
  show (((34 :: (b ++ [34])).drop 1).take (b.length + 1 - 1)).toArray = b.toArray
  simp

theorem enc_no (c : Nat) (hc : c = 10 ∨ c = 13) : ∀ cs : List Nat, c ∉ encL cs
  | [] => by simp [encL]
  | d :: r => by
    show c ∉ encC d ++ encL r
    rw [List.mem_append, not_or]
    refine ⟨?_, enc_no c hc r⟩
    unfold encC
    cases hs : special d with
    | true =>
      rw [if_pos rfl]
      unfold special at hs
      simp only [Bool.or_eq_true, beq_iff_eq] at hs
      rcases hc with rfl | rfl <;> rcases hs with ((rfl | rfl) | rfl) | rfl <;> decide
    | false =>
      rw [if_neg Bool.false_ne_true, List.mem_singleton]
      rintro rfl
      rcases hc with rfl | rfl <;> cases hs
theorem told_no (c : Nat) (hc : c = 10 ∨ c = 13) (cs : List Nat) : decide (c ∈ (toldOf cs).cps.toList) = false := by
  refine decide_eq_false ?_
  show c ∉ 34 :: (encL cs ++ [34])
  rw [List.mem_cons, List.mem_append, List.mem_singleton, not_or, not_or]
  exact ⟨by omega, enc_no c hc cs, by omega⟩

theorem due_join (cs : List Nat) : Txt.join (Str.ofString "") (cs.map fun c => (⟨(encC c).toArray⟩ : Str)) = ⟨(encL cs).toArray⟩ := by
  have e : Str.ofString "" = ⟨#[]⟩ := by decide +kernel
  rw [e, txt_join_empty]
  congr 2
  rw [List.flatMap_map]
  rfl
theorem told_cat (cs : List Nat) : Str.ofString "\"" ++ (⟨(encL cs).toArray⟩ : Str) ++ Str.ofString "\"" = toldOf cs := by
  rw [ofS_q]
  refine Str.ext' (Array.toList_inj.mp ?_)
  rw [Str.cps_append, Str.cps_append, Array.toList_append, Array.toList_append]
  simp
theorem encL_len (cs : List Nat) : (encL cs).length ≤ 2 * cs.length := by
  induction cs with
  | nil => exact Nat.le_refl _
  | cons c r ih =>
    show (encC c ++ encL r).length ≤ 2 * (r.length + 1)
    have : (encC c).length ≤ 2 := by unfold encC; split <;> exact Nat.le_of_ble_eq_true rfl
    rw [List.length_append]
    omega

theorem in_lit {prog : Program} {w : World} {A : Around} {E : Value → Shared → Prop} {s : Shared} {x y : Str} {t u : Tok} {c : Nat} {Q : Value → Shared → Prop} (hX : y = ⟨#[c]⟩) (hc : decide (c ∈ x.cps.toList) = false) (h : Q (.bool false) s) :
    wpAny (model prog w) A (compareOp .In (.str y u) (.str x t)) Q E s := by
  subst hX
  refine PyProof.Rows.in_str ?_
  rw [StrLaws.found_one, hc]
  exact h

theorem sub_is {prog : Program} {w : World} {A : Around} {E : Value → Shared → Prop} {s : Shared} {a b j : Int} {t u : Tok} {Q : Value → Shared → Prop} (hj : a - b = j) (h : Q (.int j s.toks) { s with toks := s.toks + 1 }) :
    wpAny (model prog w) A (binaryOp .Sub (.int a t) (.int b u)) Q E s := by
  subst hj
  exact PyProof.Rows.sub_int h
theorem slice_is {prog : Program} {w : World} {A : Around} {E : Value → Shared → Prop} {s : Shared} {h₀ : Heap} {L : Addr} {m : Str → Option Value} {value slice : PySem.Expr} {x y : Str} {i j : Int} {ui uj t : Tok} {Q : Value → Shared → Prop} (F : Fr h₀ L s.heap m) (hsz : x.length ≤ sizeLine) (hy : Txt.slice x (some i) (some j) = y)
    (h : ∀ h' t' k, Fr h₀ L h' m → Q (.str y t') { s with heap := h', toks := k })
    (hs : ∀ a, subscripted slice false (.str x t) (.ref a) = operate [.ref a, .str x t] (getItem (.str x t) (.ref a)))
    (ht : ∀ r, letTemporaryGo value (.str x t) r = pure ()) :
    wpAny (model prog w) A (subscriptTail value slice (.str x t) (.ref s.heap.objs.size)) Q E { s with heap := s.heap.push { cls := .type "slice", data := .fields #[.int i ui, .int j uj, .none] } } := by
  subst hy
  exact slice_str_ss F h (hs _) ht hsz

def ifStmt : Stmt := match lawBody[(4 : Nat)]? with
  | some st => st
  | _ => .Pass default
def retStmt : Stmt := match lawBody[(5 : Nat)]? with
  | some st => st
  | _ => .Pass default

theorem lit_q : (Str.ofString "\"").length = 1 := by decide +kernel
theorem lit_e : (Str.ofString "").length = 0 := by decide +kernel
theorem enc_str_len (cs : List Nat) : (⟨(encL cs).toArray⟩ : Str).length = (encL cs).length := by show (encL cs).toArray.size = _; rw [List.size_toArray]
theorem told_len (cs : List Nat) : (toldOf cs).length = (encL cs).length + 2 := by
  show (34 :: (encL cs ++ [34])).toArray.size = _
  rw [List.size_toArray]
  simp
theorem due_sum {cs : List Nat} (hlen : cs.length ≤ 63) : ((cs.map fun c => (⟨(encC c).toArray⟩ : Str)).map (·.length)).sum + (cs.map fun c => (⟨(encC c).toArray⟩ : Str)).length * (Str.ofString "").length ≤ 16777216 := by
  have e2 : ((cs.map fun c => (⟨(encC c).toArray⟩ : Str)).map (·.length)).sum = (encL cs).length := by
    unfold encL
    rw [List.length_flatMap, List.map_map]
    rfl
  have := encL_len cs
  rw [lit_e, e2]
  omega

section
variable {prog : Program} {w : World} {A : Around} {E : Value → Shared → Prop} {s : Shared} {h₀ : Heap} {L fa D : Addr} {m : Str → Option Value} {nm : Str} {cd : Value} {cs : List Nat} {t : Tok} {vs : List Value} {n : Nat} {Q : Flow → Shared → Prop}

/-- the law's test: told as due, no line end in it -/
theorem test_wp (F5 : Fr h₀ L s.heap m) (N5 : News h₀ L s.heap [(D, { cls := .type "list", data := .seq vs.toArray n })]) (hvs : StrsAre vs (cs.map fun c => ⟨(encC c).toArray⟩)) (hlen : cs.length ≤ 63)
    (m_told : m (Str.ofString "told") = some (.str (toldOf cs) t)) (m_due : m (Str.ofString "due") = some (.ref D)) (h : ∀ k, Q .next { s with toks := k }) :
    wpAny (model prog w) A (exec ifStmt (envOf nm lawScope L fa cd)) Q E s := by
  have hel := encL_len cs
  have hls := enc_str_len cs
  refine wpAny_If (isTrue_or (wpAny_isTrue_Compare1 ?_))
  refine ld F5 m_told ?_
  refine wpAny_BinOp (wpAny_BinOp (Calls.Constant_str ?_))
  refine Call_method1 ?j1 ?j2 ?j3 ?_
  case j1 => rfl
  case j2 => rfl
  case j3 => rfl
  refine Calls.Constant_str ?_
  refine ⟨"str", "str.join", PySem.F.plainAttrs_str, PySem.F.slot_str_join, PySem.F.type_str_join, typeIs_str _ _ _, (fun _ e => nomatch e), ?_⟩
  refine method_one ?_
  refine ld F5 m_due ?_
  refine join_list (News.isList N5 (.head _)) hvs (due_sum hlen) (fun t6 k6 => ?_)
  rw [due_join]
  refine PyProof.Rows.add_str (fun t7 k7 => ?_) (by rw [hls, lit_q, sizeLine_eq]; omega)
  refine Calls.Constant_str ?_
  refine PyProof.Rows.add_str (fun t8 k8 => ?_) (by rw [Str.length_append, hls, lit_q, sizeLine_eq]; omega)
  rw [told_cat]
  refine P.ne_str ?_
  have e1 : ((toldOf cs).cps.toList != (toldOf cs).cps.toList) = false := by simp
  rw [e1]
  refine wpAny_truthy_bool ?_
  rw [if_neg Bool.false_ne_true]
  refine isTrue_or (wpAny_isTrue_Compare1 (Calls.Constant_str (ld F5 m_told ?_)))
  refine in_lit ofS_nl (told_no 10 (.inl rfl) cs) (wpAny_truthy_bool ?_)
  rw [if_neg Bool.false_ne_true]
  refine isTrue_or (wpAny_isTrue_Compare1 (Calls.Constant_str (ld F5 m_told ?_)))
  refine in_lit ofS_cr (told_no 13 (.inr rfl) cs) (wpAny_truthy_bool ?_)
  rw [if_neg Bool.false_ne_true]
  refine isTrue_or_nil ?_
  rw [if_neg Bool.false_ne_true]
  exact wpAny_execs_nil (h _)
end

end Mine
end

section
open PySem PyProof.Rows PySem.W
namespace Mine

section
variable {prog : Program} {w : World} {A : Around} {E : Value → Shared → Prop} {s : Shared} {h₀ : Heap} {L fa : Addr} {m mg mb : Str → Option Value} {nm : Str} {cd : Value} {cs : List Nat} {t t1 : Tok} {Q : Flow → Shared → Prop}
  {pa ca sa ta da : Addr} {doc dpm dcd soc spm scd : Value} {dod sod : Option Addr} {dsl ssl : Array (Option Value)}

/-- the argument of the way back: told without its quotes -/
theorem cut_wp {p1 p2 p3 p4 p5 p6 p7 p8 p9 : Pos} {k1 k2 : Nat} {V : Value → Shared → Prop} (F : Fr h₀ L s.heap m) (hlen : cs.length ≤ 63)
    (m_told : m (Str.ofString "told") = some (.str (toldOf cs) t)) (hg : h₀.Ns mainGlobals mg)
    (gl : mg (Str.ofString "len") = none) (bl : mb (Str.ofString "len") = some (.builtin "len")) (hb : h₀.Ns builtinsNs mb)
    (h : ∀ h' t' k, Fr h₀ L h' m → V (.str ⟨(encL cs).toArray⟩ t') { s with heap := h', toks := k }) :
    wpAny (model prog w) A (eval (.Subscript (.Name (Str.ofString "told") p1) (.Slice (some (.Constant (.int 1) k1 p2)) (some (.BinOp (.Call (.Name (Str.ofString "len") p3) [.Name (Str.ofString "told") p4] [] p5) .Sub (.Constant (.int 1) k2 p6) p7)) none p8) p9)
      (envOf nm lawScope L fa cd)) V E s := by
  have hel := encL_len cs
  refine Subscript_ (ld F m_told (wpAny_Slice (evalPart_some_step (wpAny_Constant_int (evalPart_some_step ?_)))))
  refine wpAny_BinOp (Call_Name1 ?_)
  refine ld_builtin_at F hg gl hb bl ?_
  refine callWith_builtin1 (ld F m_told (PyProof.Rows.len_str (by rw [told_len]; omega) ?_))
  refine wpAny_Constant_int (sub_is (j := (((encL cs).length + 1 : Nat) : Int)) (by rw [told_len]; omega) ?_)
  refine evalPart_none_step ?_
  dsimp only
  refine slice_is (s := ⟨s.heap, s.gens, s.drawn, s.toks + 1 + 1 + 1 + 1 + 1, s.os⟩) (i := 1) (j := (((encL cs).length + 1 : Nat) : Int)) F (by rw [told_len, sizeLine_eq]; omega) (slice_mid (encL cs)) (fun h9 t9 k9 F9 => h h9 t9 k9 F9) ?sl1 ?sl2
  case sl1 => intro _; rfl
  case sl2 => intro _; rfl

/-- the law's last row -/
theorem back_wp (F : Fr h₀ L s.heap m) (hA : A.handled = none) (hroom : A.depth + 2 < recursionLimit) (hlen : cs.length ≤ 63)
    (m_told : m (Str.ofString "told") = some (.str (toldOf cs) t)) (m_text : m (Str.ofString "text") = some (.str ⟨cs.toArray⟩ t1))
    (Y : Laid prog w mg h₀ pa ca sa ta soc spm scd sod ssl) (gd : mg (Str.ofString "decodeUnicodeEscape") = some (.ref da))
    (hd : h₀.get? da = some ⟨doc, dod, .func (defAt 7 dpm dcd), dsl⟩) (hdc : h₀.CodeRec dcd (defAt 7 dpm dcd).qualname)
    (gl : mg (Str.ofString "len") = none) (bl : mb (Str.ofString "len") = some (.builtin "len")) (hb : h₀.Ns builtinsNs mb)
    (h : ∀ h' k m', Fr h₀ L h' m' → Q (.ret (.bool true)) { s with heap := h', toks := k }) :
    wpAny (model prog w) A (exec retStmt (envOf nm lawScope L fa cd)) Q E s := by
  refine wpAny_Return_some (wpAny_Compare1 (Call_Name1 ?_))
  refine ld_global_at F Y.glob gd ?_
  refine Calls.callWith_function (o := ⟨doc, dod, .func (defAt 7 dpm dcd), dsl⟩) (fd := defAt 7 dpm dcd) (Calls.evalArgs_plain (Calls.spliced_cons ?_))
  refine cut_wp F hlen m_told Y.glob gl bl hb (fun h9 t9 k9 F9 => ?_)
  refine Calls.spliced_nil ⟨⟨F9.keep _ _ hd, rfl⟩, wpAny_call ?_⟩
  refine decode_wp (cs := cs) (F9.keep _ _ hd) (Y.keeps F9.keep) (hdc.keeps F9.keep) (by omega) hA hlen (fun t10 h10 k10 hk10 => ?_)
  have F10 : Fr h₀ L h10 m := ⟨F9.ns.keeps hk10, fun b o e => hk10 b o (F9.keep b o e), F9.above⟩
  dsimp only
  refine ld F10 m_text (P.eq_str ?_)
  have e9 : ((⟨cs.toArray⟩ : Str).cps.toList == (⟨cs.toArray⟩ : Str).cps.toList) = true := by simp
  rw [e9]
  exact h h10 _ m F10
end

def restBody : List Stmt := lawBody.drop 1

section
variable {prog : Program} {w : World} {A : Around} {s : Shared} {h₀ : Heap} {L fa : Addr} {m mg mb : Str → Option Value} {nm : Str} {cd : Value} {cs : List Nat} {t : Tok} {Q : Flow → Shared → Prop}
  {pa ca sa ta qa da : Addr} {qoc qpm qcd doc dpm dcd soc spm scd : Value} {qod dod sod : Option Addr} {qsl dsl ssl : Array (Option Value)}

theorem rest_wp (F : Fr h₀ L s.heap m) (hA : A.handled = none) (hroom : A.depth + 2 < recursionLimit) (hlen : cs.length ≤ 63) (ht : m (Str.ofString "text") = some (.str ⟨cs.toArray⟩ t))
    (Y : Laid prog w mg h₀ pa ca sa ta soc spm scd sod ssl) (hnb : NoneBooked h₀)
    (gq : mg (Str.ofString "_quote_encode") = some (.ref qa)) (gd : mg (Str.ofString "decodeUnicodeEscape") = some (.ref da))
    (hq : h₀.get? qa = some ⟨qoc, qod, .func (defAt 2 qpm qcd), qsl⟩) (hqc : h₀.CodeRec qcd (defAt 2 qpm qcd).qualname)
    (hd : h₀.get? da = some ⟨doc, dod, .func (defAt 7 dpm dcd), dsl⟩) (hdc : h₀.CodeRec dcd (defAt 7 dpm dcd).qualname)
    (gl : mg (Str.ofString "len") = none) (bl : mb (Str.ofString "len") = some (.builtin "len")) (hb : h₀.Ns builtinsNs mb)
    (h : ∀ h' k m', Fr h₀ L h' m' → Q (.ret (.bool true)) { s with heap := h', toks := k }) :
    wpAny (model prog w) A (execs restBody (envOf nm lawScope L fa cd)) Q (fun _ _ => False) s := by
  have hlim : h₀.NoLimit := Y.lim
  refine wpAny_execs_cons (wpAny_Assign_Name (Call_Name1 ?_))
  refine ld_global_at F Y.glob gq ?_
  refine Calls.callWith_function (o := ⟨qoc, qod, .func (defAt 2 qpm qcd), qsl⟩) (fd := defAt 2 qpm qcd) (Calls.evalArgs_plain (Calls.spliced_cons ?_))
  refine ld F ht (Calls.spliced_nil ⟨⟨F.keep _ _ hq, rfl⟩, wpAny_call ?_⟩)
  refine quote_wp (F.keep _ _ hq) (hlim.keeps F.keep) (hqc.keeps F.keep) (by omega) (let ⟨mc, a, b⟩ := hnb; ⟨mc, a.keeps F.keep, b⟩) hlen (fun t1 h1 k1 hk1 => ?_)
  have F1 : Fr h₀ L h1 m := ⟨F.ns.keeps hk1, fun b o e => hk1 b o (F.keep b o e), F.above⟩
  refine st F1 (fun h2 F2 => ?_)
  -- due = []
  refine wpAny_execs_cons (wpAny_Assign_Name (List_ (Calls.spliced_nil (newList_N F2 News.nil (fun h3 F3 N3 => ?_)))))
  generalize h2.objs.size = D at N3 ⊢
  refine stN F3 N3 (fun h4 F4 N4 => ?_)
  -- the loop
  refine wpAny_execs_cons (for_wp (cs := cs) (t := t) (D := D) F4 N4 hA ?_ (by rfl) hlim hlen (fun h5 k5 vs n5 m5 F5 N5 hvs hm5 => ?_))
  · exact ht
  have m_told : m5 (Str.ofString "told") = some (.str (toldOf cs) t1) := (hm5 _ (by decide +kernel)).trans (by rfl)
  have m_due : m5 (Str.ofString "due") = some (.ref D) := (hm5 _ (by decide +kernel)).trans (by rfl)
  have m_text : m5 (Str.ofString "text") = some (.str ⟨cs.toArray⟩ t) := (hm5 _ (by decide +kernel)).trans ht
  refine wpAny_execs_cons (test_wp F5 N5 hvs hlen m_told m_due (fun k6 => ?_))
  refine wpAny_execs_cons (back_wp F5 hA hroom hlen m_told m_text Y gd hd hdc gl bl hb (fun h7 k7 m7 F7 => ?_))
  exact h h7 k7 m7 F7
end
end Mine
end

section
open PySem PyProof.Rows PySem.W
namespace Mine

def Stop (p : Prop) : Prop := p

section
variable {prog : Program} {w : World} {A : Around} {E : Value → Shared → Prop} {s : Shared} {t : Tok} {Q : Value → Shared → Prop} {D : Addr} {ys : List Value} {ns : List Int} {G : Int → Str}
theorem join_signs (hl : s.heap.IsList D ys.toArray) (hc : CarriedAll ys (ns.map fun k => PyData.str (G k))) (hn : ns.length ≤ 63) (h1 : ∀ k, (G k).length = 1)
    (h : Stop (∀ t' k (cs : List Nat), cs.length ≤ 63 → Q (.str ⟨cs.toArray⟩ t') { s with toks := k })) :
    wpAny (model prog w) A (call (.builtin "str.join") [.str (Str.ofString "") t, .ref D]) Q E s := by
  have e : Str.ofString "" = ⟨#[]⟩ := by decide +kernel
  have hs : StrsAre ys (ns.map G) := StrsAre.ofCarried (by rw [List.map_map]; exact hc)
  have hlen : ((ns.map G).map (·.length)).sum = ns.length := by
    clear hl hc hn h hs
    induction ns with
    | nil => rfl
    | cons k r ih =>
      rw [List.map_cons, List.map_cons, List.sum_cons, ih, h1, List.length_cons]
      omega
  refine join_list hl hs ?_ (fun t' k => ?_)
  · rw [hlen, lit_e]
    omega
  · rw [e, txt_join_empty]
    refine h t' k _ ?_
    have : ((ns.map G).flatMap (·.cps.toList)).length = ((ns.map G).map (·.length)).sum := by
      rw [List.length_flatMap]
      rfl
    rw [this, hlen]
    exact hn
theorem tab_one (L : List Str) (i : Int) (hL : ∀ j, j < 14 → (L.getD j Str.empty).length = 1) (h0 : i.toNat < 14) : ((if i.toNat < 14 then L.getD i.toNat Str.empty else Str.empty)).length = 1 := by
  rw [if_pos h0]
  exact hL _ h0
end
end Mine
end

section
open PySem
namespace Mine
abbrev escPairs : List (Str × PyData) := [("t", .str "\t"), ("b", .str "\x08"), ("n", .str "\n"), ("r", .str "\r"), ("f", .str "\x0c"), ("\"", .str "\""), ("'", .str "'"), ("\\", .str "\\")]
end Mine
end

open PySem PySem.W PyProof.Rows Mine
local macro_rules | `(tactic| walk_at "CompSrc") => `(tactic| (k_here; k_dflt (refine LCg.CompSrc.ledger (by rfl) (by k_asm) (by k_asm) (by k_mem) (by kcf_size) ?_; intro g'; (refine' kct_list _ (by first | assumption | l_ints) (fun k' t' I' oI' C' oC' D' m' ys' h' tk' E' hk' hC' hx' F' N' off' ne' hMark' => ?_) ?_); (all_goals (try (simp only [LCg.Off3, and_true] at off'))); kcf_last)))
local macro_rules | `(tactic| walk_at "call builtin:str.join") => `(tactic| (k_here; (with_reducible rename CarriedAll _ (List.map _ _) => ktC); (refine join_signs (by first | assumption | is_list | exact News.isList (by k_asm) (by k_mem)) ktC ?jl ?jo ?_; (case jl => (simp only [List.length_take]; omega)); (case jo => (intro k9; refine tab_one _ _ (by decide) ?_; (have h8 := fmod_lo (if k9 < 0 then -k9 else k9) (n := 14) (by decide)); (have h9 := fmod_hi (if k9 < 0 then -k9 else k9) (n := 14) (by decide)); omega)))))
set_option maxRecDepth 100000 in
set_option maxHeartbeats 8000000 in
theorem PySem.Challenge.cw_ez0311_01_holds : PySem.Challenge.rw_ez0311_01.Holds := by
  w_on
  o_law
  k_head
  (case hw => w_witness2)
  w_strict (
    k_go0
    (all_goals try k_fold)
    k_steps
    intro t' k cs hcs
    rename Fr _ _ _ _ => F9
    rename Frag.In _ _ => KX
    rename Glob _ _ _ _ _ _ _ _ => GL
    rename World => w9
    refine st F9 (fun hx Fx => ?_)
    have hY : Laid PySem.Challenge.rw_ez0311_01.row.prog w9 _ _ 51 50 46 39 _ _ _ _ _ := 
      ⟨GL.g, ⟨_, _, _, _, _, _, _, _, KX 51 _ rfl, rfl, rfl, KX 50 _ rfl, rfl, by decide +kernel⟩, ⟨_, KX 51 _ rfl, rfl⟩, mg_of KX GL.g (by kernel_rfl), mg_of KX GL.g (by kernel_rfl), mg_of KX GL.g (by kernel_rfl), kt_tab_in PySem.Challenge.rw_ez0311_01.row.prog w9 KX (D := escPairs) (by kernel_rfl) (by decide +kernel) (by kernel_rfl), KX 46 _ rfl, rfl, codeRec_of KX (by kernel_rfl), GL.nolimit⟩
    have hnb : NoneBooked _ := let ⟨mc, hm, _⟩ := GL.nolimit; ⟨mc, hm, ns_none_of KX hm (by kernel_rfl)⟩
    refine wpAny_mono (rest_wp (cs := cs) (t := t') (mg := _) (mb := _) (qa := 38) (da := 58) Fx rfl (by show 1 + claimMargin + 1 + 2 < recursionLimit; decide) hcs (by rfl) hY hnb
      (mg_of KX GL.g (by kernel_rfl)) (mg_of KX GL.g (by kernel_rfl)) (KX 38 _ rfl) (codeRec_of KX (by kernel_rfl)) (KX 58 _ rfl) (codeRec_of KX (by kernel_rfl))
      (mg_none_of KX GL.g (by kernel_rfl)) ((GL.builtins _ (by decide)).trans rfl) GL.b (fun h7 k7 m7 F7 => ?_)) (fun _ _ x => x) (fun _ _ e => e.elim)
    dsimp only
    k_steps)
