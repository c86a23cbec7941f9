import PyProof.Rows.All
import Wide.All
import OpenK.AllK
import Wide.FinOn
import PySem.Challenge.RW_pk0022_01
set_option Elab.async false
set_option maxRecDepth 100000
set_option maxHeartbeats 8000000

/- part Top22 -/
section
open PySem PySem.W PyProof.Rows
set_option Elab.async false
set_option maxRecDepth 100000
set_option maxHeartbeats 8000000
namespace Mine
open_top hd for PySem.Challenge.rw_pk0022_01
end Mine
end

/- part R1 -/
section
open PySem PySem.W PyProof.Rows
set_option Elab.async false
set_option maxRecDepth 100000
namespace Mine
theorem plainAttrs_pat : PlainAttrs "re.Pattern" :=
  ⟨⟨"object.__getattribute__", by rw [typeLookup_type, builtinLookup_eq_fast]; kernel_rfl, by decide +kernel⟩, by rw [typeLookup_type, builtinLookup_eq_fast]; kernel_rfl⟩
theorem slot_sub : Slot "re.Pattern" (Str.ofString "sub") "re.Pattern.sub" :=
  .of (owner := "re.Pattern") (n := "sub") (by rw [typeLookup_type, builtinLookup_eq_fast]; kernel_rfl) (by decide +kernel) (by decide +kernel) (by decide +kernel)
    (by first | exact .inl (by decide +kernel) | exact .inr (by decide +kernel)) (by rw [isSubtype_type]; kernel_rfl)
theorem type_sub : typeOf (.builtin "re.Pattern.sub") = pure (.type "method_descriptor") := by show builtinType _ = _; rw [builtinType_eq_fast]; kernel_rfl
theorem entry_sub : entryFor table "re.Pattern.sub" = some Builtin.«re.Pattern.sub» := entryFor_of_tree (by kernel_rfl)
theorem entry_loop : entryFor table "re.Pattern.sub.loop" = some Builtin.«re.Pattern.sub.loop» := entryFor_of_tree (by kernel_rfl)
theorem plain_loop : plainId "re.Pattern.sub.loop" = true := by decide +kernel
theorem owner_pat : Manifest.owners.lookup (String.ofList ['n', 'r', 'e', 't', 't', 'a', 'P', '.', 'e', 'r'].reverse) = some Manifest.sig_re_Pattern := by kernel_rfl
theorem args_sub (a b c : Value) : argsOk "re.Pattern.sub" ⟨[a, b, c], []⟩ := by
  unfold argsOk; rw [signature?_of (id := "re.Pattern.sub") (n := ['b', 'u', 's']) (o := ['n', 'r', 'e', 't', 't', 'a', 'P', '.', 'e', 'r']) (by kernel_rfl) owner_pat]; kernel_rfl
end Mine
end

/- part R2 -/
section
open PySem PySem.W PyProof.Rows
set_option Elab.async false
set_option maxRecDepth 100000
namespace Mine
open PySem.Sre

theorem runFor_stop {m : M} (h : m.outcome.isSome = true) : ∀ n, M.runFor n m = m
  | 0 => rfl
  | n + 1 => by rw [M.runFor, if_pos h]

theorem runFor_add : ∀ (a b : Nat) (m : M), M.runFor (a + b) m = M.runFor b (M.runFor a m)
  | 0, b, m => by rw [Nat.zero_add]; rfl
  | a + 1, b, m => by
    rw [show a + 1 + b = (a + b) + 1 by omega]
    by_cases h : m.outcome.isSome = true
    · rw [runFor_stop h, runFor_stop h, runFor_stop h]
    · rw [M.runFor, if_neg h, M.runFor, if_neg h]; exact runFor_add a b m.step

theorem wp_drive {M' : Model} {A : Around} {E : Value → Shared → Prop} {s : Shared} {Q : M → Shared → Prop} :
    ∀ (t N : Nat) (m : M), N < 4 * t → (M.runFor N m).outcome.isSome = true → Q (M.runFor N m) s → wpAny M' A (Builtin.Re.reDrive t m) Q E s
  | 0, N, m, hN, _, _ => absurd hN (by omega)
  | t + 1, N, m, hN, ho, hQ => by
    have e4 : Builtin.Re.reDrive (t + 1) m = (if (M.runFor 4 m).outcome.isSome = true then pure (M.runFor 4 m) else (do rule "sre.turn"; Builtin.Re.reDrive t (M.runFor 4 m))) := rfl
    rw [e4]
    by_cases h : (M.runFor 4 m).outcome.isSome = true
    · rw [if_pos h]
      refine wpAny_pure ?_
      by_cases h4 : 4 ≤ N
      · have : M.runFor N m = M.runFor 4 m := by
          rw [show N = 4 + (N - 4) by omega, runFor_add, runFor_stop h]
        rw [← this]; exact hQ
      · have : M.runFor 4 m = M.runFor N m := by
          rw [show 4 = N + (4 - N) by omega, runFor_add, runFor_stop ho]
        rw [this]; exact hQ
    · rw [if_neg h]
      have h4 : 4 ≤ N := by
        by_cases h4 : 4 ≤ N
        · exact h4
        · have : M.runFor 4 m = M.runFor N m := by
            rw [show 4 = N + (4 - N) by omega, runFor_add, runFor_stop ho]
          rw [this] at h; exact absurd ho h
      have e : M.runFor N m = M.runFor (N - 4) (M.runFor 4 m) := by
        rw [← runFor_add]; congr 1; omega
      rw [e] at ho hQ
      exact wpAny_bind (wpAny_rule (wp_drive t (N - 4) _ (by omega) ho hQ))

theorem wp_rules {M' : Model} {A : Around} {E : Value → Shared → Prop} {s : Shared} (f : Nat → Bool) (g : Nat → String) :
    ∀ (l : List Nat) {Q : PUnit → Shared → Prop}, Q ⟨⟩ s → wpAny M' A (forIn l PUnit.unit (fun i r => if f i = true then (do rule (g i); pure (ForInStep.yield PUnit.unit)) else pure (ForInStep.yield PUnit.unit) : Nat → PUnit → Sem (ForInStep PUnit))) Q E s
  | [], Q, h => wpAny_pure h
  | i :: l, Q, h => by
    rw [List.forIn_cons]
    refine wpAny_bind ?_
    by_cases hf : f i = true
    · rw [if_pos hf]
      exact wpAny_bind (wpAny_rule (wpAny_pure (wp_rules f g l h)))
    · rw [if_neg hf]
      exact wpAny_pure (wp_rules f g l h)

theorem wp_runToEnd {M' : Model} {A : Around} {E : Value → Shared → Prop} {s : Shared} {Q : Option M → Shared → Prop} {N : Nat} {m : M} {yes : Bool} (hN : N < 2 ^ 60)
    (ho : (M.runFor N m).outcome = some (if yes then .matched else .failed)) (hQ : Q (if yes then some (M.runFor N m) else none) s) :
    wpAny M' A (Builtin.Re.reRunToEnd m) Q E s := by
  unfold Builtin.Re.reRunToEnd
  refine wpAny_bind (wp_drive _ N m (by omega) (by rw [ho]; rfl) ?_)
  refine wpAny_bind ?_
  have key := wp_rules (M' := M') (A := A) (E := E) (s := s) (fun i => (M.runFor N m).seen.has i) (fun i => Sre.names.getD i "") (List.range Sre.names.size)
    (Q := fun _ s' => wpAny M' A (match (M.runFor N m).outcome with
      | some .matched => pure (some (M.runFor N m))
      | some .failed => pure none
      | some (.stuck why) => unsupported s!"_sre:{why}"
      | none => unsupported "internal:sre:no-outcome") Q E s') ?_
  · exact key
  · rw [ho]
    cases yes with
    | true => exact wpAny_pure hQ
    | false => exact wpAny_pure hQ
end Mine
end

/- part R3 -/
section
open PySem PySem.W PyProof.Rows
set_option Elab.async false
set_option maxRecDepth 100000
namespace Mine
open PySem.Sre

def code1 : Array Nat := #[14, 4, 0, 1, 1, 6, 1, 16, 46, 1]
def code2 : Array Nat := #[14, 9, 4, 1, 2, 16, 10, 16, 13, 0, 7, 7, 16, 13, 16, 10, 15, 18, 5, 16, 10, 15, 13, 11, 16, 13, 5, 5, 0, 16, 10, 1, 15, 2, 0, 1]

/-- a state of the machine: what can change in these two programs -/
def St (code T : Array Nat) (lim st pc pos hd : Nat) (om : Bool) (fr : List Sre.Frame) (wt : Nat) (an : Option Bool) (sn : Sre.Seen) : M :=
  { code, text := T, lim, start := st, lastStart := lim, pc, pos, handed := hd, outermost := om, marks := #[], frames := fr, weight := wt, answer := an, seen := sn }

theorem step_none (code T : Array Nat) (lim st pc pos hd : Nat) (om : Bool) (fr : List Sre.Frame) (wt : Nat) (sn : Sre.Seen) (h : pc < code.size) :
    (St code T lim st pc pos hd om fr wt none sn).step = (St code T lim st pc pos hd om fr wt none sn).exec := by
  show (if pc < code.size then _ else _) = _
  rw [if_pos h]

theorem runFor_succ {m : M} (h : m.outcome = none) (n : Nat) : M.runFor (n + 1) m = M.runFor n m.step := by
  rw [M.runFor, if_neg (by rw [h]; exact Bool.false_ne_true)]

def F0 (s : Nat) (first : Bool) (pc : Nat) : Sre.Frame := { wait := .nextStart, pc, pos := s, outermost := first }
def FB (alt pos : Nat) (om : Bool) : Sre.Frame := { wait := .nextBranch, pc := alt, pos, outermost := om, kept := {} }

-- program 2: at a return or a feed
section
variable {T : Array Nat} {lim p : Nat} {sn : Sre.Seen}
theorem p2_start (h : p < lim) : forSearch code2 T 0 p lim false =
    (M.attemptFrom (St code2 T lim p 10 p p true [] 0 none (({} : Sre.Seen).add 14)) p true) := by
  have e : forSearch code2 T 0 p lim false = (if (decide (p > lim) || decide (lim - p < 1)) = true then _ else (M.attemptFrom (St code2 T lim p 10 p p true [] 0 none (({} : Sre.Seen).add 14)) p true)) := rfl
  rw [e, if_neg]
  simp; omega
theorem inSet2 (c : Nat) (sn : Sre.Seen) : ∃ sn', inSet code2 c 36 5 true sn = .ok (c == 10 || c == 13, sn') := by
  by_cases h1 : c = 10
  · subst h1; exact ⟨_, rfl⟩
  · by_cases h2 : c = 13
    · subst h2; exact ⟨_, rfl⟩
    · have e : inSet code2 c 36 5 true sn = (if (c == 10) = true then .ok (true, sn.add 16) else if (c == 13) = true then .ok (true, (sn.add 16).add 16) else .ok (false, ((sn.add 16).add 16).add 0)) := rfl
      rw [e, if_neg (by simpa using h1), if_neg (by simpa using h2)]
      have : (c == 10 || c == 13) = false := by simp [h1, h2]
      rw [this]; exact ⟨_, rfl⟩
end

section
variable {code T : Array Nat} {lim st pc pos hd c wt j : Nat} {om : Bool} {fr : List Sre.Frame} {sn : Sre.Seen}
theorem lit_step (hpc : pc < code.size) (h0 : code.getD pc 0 = 16) (h1 : code.getD (pc + 1) 0 = c) :
    (St code T lim st pc pos hd om fr wt none sn).step = if pos < lim ∧ T.getD pos 0 = c then St code T lim st (pc + 2) (pos + 1) hd om fr wt none (sn.add 16) else St code T lim st pc pos hd om fr wt (some false) (sn.add 16) := by
  rw [step_none _ _ _ _ _ _ _ _ _ _ _ hpc]
  have e0 : ops[(16 : Nat)]? = some Op.LITERAL := rfl
  by_cases hl : pos < lim
  · by_cases hc : T.getD pos 0 = c
    · rw [if_pos ⟨hl, hc⟩]
      have hl' : ¬ (pos ≥ lim) := by omega
      simp [-Array.getD_eq_getD_getElem?, M.exec, M.word, St, h0, e0, hl', accepts, h1, hc, itemWidth]
    · rw [if_neg (fun h => hc h.2)]
      have hl' : ¬ (pos ≥ lim) := by omega
      have hb : (T.getD pos 0 == c) = false := by simpa [-Array.getD_eq_getD_getElem?] using hc
      simp [-Array.getD_eq_getD_getElem?, M.exec, M.word, St, h0, e0, hl', accepts, h1, hb, M.say]
  · rw [if_neg (fun h => hl h.1)]
    have hl' : pos ≥ lim := by omega
    simp [-Array.getD_eq_getD_getElem?, M.exec, M.word, St, h0, e0, hl', M.say]
theorem at_step (hpc : pc < code.size) (h0 : code.getD pc 0 = 6) (h1 : code.getD (pc + 1) 0 = 1) :
    (St code T lim st pc pos hd om fr wt none sn).step = if pos = 0 ∨ T.getD (pos - 1) 0 = 10 then St code T lim st (pc + 2) pos hd om fr wt none ((sn.add 6).add 44) else St code T lim st pc pos hd om fr wt (some false) ((sn.add 6).add 44) := by
  rw [step_none _ _ _ _ _ _ _ _ _ _ _ hpc]
  have e0 : ops[(6 : Nat)]? = some Op.AT := rfl
  by_cases hc : pos = 0 ∨ T.getD (pos - 1) 0 = 10
  · rw [if_pos hc]
    simp [-Array.getD_eq_getD_getElem?, M.exec, M.word, St, h0, e0, M.isAt, h1, hc]
  · rw [if_neg hc]
    simp [-Array.getD_eq_getD_getElem?, M.exec, M.word, St, h0, e0, M.isAt, h1, hc, M.say]
theorem jump_step (hpc : pc < code.size) (h0 : code.getD pc 0 = 15) (h1 : code.getD (pc + 1) 0 = j) :
    (St code T lim st pc pos hd om fr wt none sn).step = St code T lim st (pc + 1 + j) pos hd om fr wt none (sn.add 15) := by
  rw [step_none _ _ _ _ _ _ _ _ _ _ _ hpc]
  have e0 : ops[(15 : Nat)]? = some Op.JUMP := rfl
  simp [-Array.getD_eq_getD_getElem?, M.exec, M.word, St, h0, e0, h1]
theorem succ_step (hpc : pc < code.size) (h0 : code.getD pc 0 = 1) :
    (St code T lim st pc pos hd om fr wt none sn).step = St code T lim st pc pos pos om fr wt (some true) (sn.add 1) := by
  rw [step_none _ _ _ _ _ _ _ _ _ _ _ hpc]
  have e0 : ops[(1 : Nat)]? = some Op.SUCCESS := rfl
  simp [-Array.getD_eq_getD_getElem?, M.exec, M.word, St, h0, e0, M.say]
theorem end_step {b : Bool} : (St code T lim st pc pos hd om [] wt (some b) sn).step.outcome = some (if b then .matched else .failed) := by
  cases b <;> rfl
end

section
variable {T : Array Nat} {lim st pos hd a : Nat} {om : Bool} {fr : List Sre.Frame} {sn : Sre.Seen}
/-- the fields that stand while a frame is popped -/
theorem br_first : (St code2 T lim st 10 pos hd om fr 1 none sn).step = St code2 T lim st 12 pos pos om (FB 11 pos om :: fr) 2 none (sn.add 7) := rfl
theorem br_next1 {pc p' : Nat} {o' : Bool} : (St code2 T lim st pc p' hd o' (FB 11 pos om :: fr) 2 (some false) sn).step = St code2 T lim st 19 pos pos om (FB 18 pos om :: fr) 2 none sn := rfl
theorem br_next2 {pc p' : Nat} {o' : Bool} : (St code2 T lim st pc p' hd o' (FB 18 pos om :: fr) 2 (some false) sn).step = St code2 T lim st 24 pos pos om (FB 23 pos om :: fr) 2 none sn := rfl
theorem br_yes {pc p' : Nat} {o' : Bool} {alt : Nat} : (St code2 T lim st pc p' hd o' (FB alt pos om :: fr) 2 (some true) sn).step = St code2 T lim st alt pos hd om fr 1 (some true) sn := rfl
theorem f0_yes {code : Array Nat} {pc p' pc0 s : Nat} {o' first : Bool} : (St code T lim st pc p' hd o' [F0 s first pc0] 1 (some true) sn).step = St code T lim st pc0 s hd first [] 0 (some true) sn := rfl
def FL (pos : Nat) (om : Bool) : Sre.Frame := { wait := .lookNot, pc := 26, pos, outermost := om, kept := {} }
theorem look_in {fs : List Sre.Frame} : (St code2 T lim st 26 pos hd om fs 2 none sn).step = St code2 T lim st 29 pos pos false (FL pos om :: fs) 3 none (sn.add 5) := rfl
theorem look_no {pc p' : Nat} {o' : Bool} {fs : List Sre.Frame} : (St code2 T lim st pc p' hd o' (FL pos om :: fs) 3 (some false) sn).step = St code2 T lim st 32 pos hd om fs 2 none sn := rfl
end
end Mine
end

/- part R4 -/
section
open PySem PySem.W PyProof.Rows
set_option Elab.async false
set_option maxRecDepth 100000
namespace Mine
open PySem.Sre

/-- what a search that finds leaves -/
def Hit (m : M) (a b : Nat) : Prop := ∃ N, N < 2 ^ 60 ∧ (M.runFor N m).outcome = some .matched ∧ (M.runFor N m).start = a ∧ (M.runFor N m).handed = b
def Miss (m : M) : Prop := ∃ N, N < 2 ^ 60 ∧ (M.runFor N m).outcome = some .failed

section
variable {T : Array Nat} {lim s : Nat} {sn : Sre.Seen}
theorem run2_lf (h : s < lim) (hc : T.getD s 0 = 10) : Hit (St code2 T lim s 10 s s true [F0 s true 10] 1 none sn) s (s + 1) := by
  refine ⟨9, by decide, ?_⟩
  rw [runFor_succ rfl, br_first, runFor_succ rfl, lit_step (c := 13) (by decide) rfl rfl, if_neg (by rw [hc]; omega), runFor_succ rfl, br_next1,
    runFor_succ rfl, lit_step (c := 10) (by decide) rfl rfl, if_pos ⟨h, hc⟩, runFor_succ rfl, jump_step (j := 13) (by decide) rfl rfl, runFor_succ rfl, succ_step (by decide) rfl,
    runFor_succ rfl, br_yes, runFor_succ rfl, f0_yes, runFor_succ rfl]
  exact ⟨rfl, rfl, rfl⟩
theorem run2_crlf (h : s < lim) (hc : T.getD s 0 = 13) (h' : s + 1 < lim) (hc' : T.getD (s + 1) 0 = 10) : Hit (St code2 T lim s 10 s s true [F0 s true 10] 1 none sn) s (s + 2) := by
  refine ⟨8, by decide, ?_⟩
  rw [runFor_succ rfl, br_first, runFor_succ rfl, lit_step (c := 13) (by decide) rfl rfl, if_pos ⟨h, hc⟩, 
    runFor_succ rfl, lit_step (c := 10) (by decide) rfl rfl, if_pos ⟨h', hc'⟩, runFor_succ rfl, jump_step (j := 18) (by decide) rfl rfl, runFor_succ rfl, succ_step (by decide) rfl,
    runFor_succ rfl, br_yes, runFor_succ rfl, f0_yes, runFor_succ rfl]
  exact ⟨rfl, rfl, rfl⟩
theorem run2_cr (h : s < lim) (hc : T.getD s 0 = 13) (hn : ¬ (s + 1 < lim ∧ T.getD (s + 1) 0 = 10)) : Hit (St code2 T lim s 10 s s true [F0 s true 10] 1 none sn) s (s + 1) := by
  refine ⟨15, by decide, ?_⟩
  rw [runFor_succ rfl, br_first, runFor_succ rfl, lit_step (c := 13) (by decide) rfl rfl, if_pos ⟨h, hc⟩, 
    runFor_succ rfl, lit_step (c := 10) (by decide) rfl rfl, if_neg hn, runFor_succ rfl, br_next1,
    runFor_succ rfl, lit_step (c := 10) (by decide) rfl rfl, if_neg (by rw [hc]; omega), runFor_succ rfl, br_next2,
    runFor_succ rfl, lit_step (c := 13) (by decide) rfl rfl, if_pos ⟨h, hc⟩, runFor_succ rfl, look_in,
    runFor_succ rfl, lit_step (c := 10) (by decide) rfl rfl, if_neg hn, runFor_succ rfl, look_no,
    runFor_succ rfl, jump_step (j := 2) (by decide) rfl rfl, runFor_succ rfl, succ_step (by decide) rfl,
    runFor_succ rfl, br_yes, runFor_succ rfl, f0_yes, runFor_succ rfl]
  exact ⟨rfl, rfl, rfl⟩

/-- the first feed or return from s on -/
def eolFrom (T : Array Nat) : (fuel s : Nat) → Option Nat
  | 0, _ => none
  | f + 1, s => if s ≥ T.size then none else if (T.getD s 0 == 10 || T.getD s 0 == 13) = true then some s else eolFrom T f (s + 1)

theorem admitted2 (m : M) (hcode : m.code = code2) (ht : m.text = T) (hl : m.lim = T.size) : ∀ (f s : Nat) (sn : Sre.Seen), ∃ sn', M.admitted m f s sn = .ok (eolFrom T f s, sn')
  | 0, s, sn => ⟨sn, rfl⟩
  | f + 1, s, sn => by
    unfold M.admitted eolFrom
    rw [hl]
    by_cases h : s ≥ T.size
    · rw [if_pos h, if_pos h]; exact ⟨_, rfl⟩
    · rw [if_neg h, if_neg h, hcode, ht]
      obtain ⟨sn', e⟩ := inSet2 (T.getD s 0) sn
      have e36 : code2.size = 36 := rfl
      rw [e36, e]
      by_cases hc : (T.getD s 0 == 10 || T.getD s 0 == 13) = true
      · rw [if_pos hc, hc]; exact ⟨_, rfl⟩
      · rw [if_neg hc, Bool.eq_false_iff.mpr hc]; exact admitted2 m hcode ht hl f (s + 1) sn'

/-- where the text's next end of a row ends -/
def eolEnd (T : Array Nat) (a : Nat) : Nat := if T.getD a 0 = 13 ∧ a + 1 < T.size ∧ T.getD (a + 1) 0 = 10 then a + 2 else a + 1

theorem eolFrom_some : ∀ {f s a : Nat}, eolFrom T f s = some a → a < T.size ∧ (T.getD a 0 = 10 ∨ T.getD a 0 = 13)
  | 0, s, a, h => by cases h
  | f + 1, s, a, h => by
    unfold eolFrom at h
    split at h
    · cases h
    · rename_i hs
      split at h
      · rename_i hc
        cases h
        exact ⟨by omega, by simpa [-Array.getD_eq_getD_getElem?] using hc⟩
      · exact eolFrom_some h

theorem search2_hit {a : Nat} (hs : s < T.size) (h : eolFrom T (T.size + 1 - s) s = some a) : Hit (forSearch code2 T 0 s T.size false) a (eolEnd T a) := by
  rw [p2_start hs]
  obtain ⟨sn', e⟩ := admitted2 (T := T) (St code2 T T.size s 10 s s true [] 0 none (({} : Sre.Seen).add 14)) rfl rfl rfl (T.size + 1 - s) s (({} : Sre.Seen).add 14)
  have e1 : M.attemptFrom (St code2 T T.size s 10 s s true [] 0 none (({} : Sre.Seen).add 14)) s true = St code2 T T.size a 10 a a true [F0 a true 10] 1 none sn' := by
    show (match M.admitted (St code2 T T.size s 10 s s true [] 0 none (({} : Sre.Seen).add 14)) (T.size + 1 - s) s (({} : Sre.Seen).add 14) with
      | .ok (some s', seen) => _
      | .ok (none, seen) => _
      | .error why => _) = _
    rw [e, h]
    rfl
  rw [e1]
  obtain ⟨hlt, hc⟩ := eolFrom_some h
  unfold eolEnd
  rcases hc with hc | hc
  · rw [if_neg (by rw [hc]; omega)]; exact run2_lf hlt hc
  · by_cases h2 : a + 1 < T.size ∧ T.getD (a + 1) 0 = 10
    · rw [if_pos ⟨hc, h2⟩]; exact run2_crlf hlt hc h2.1 h2.2
    · rw [if_neg (fun q => h2 q.2)]; exact run2_cr hlt hc h2

theorem search2_miss (h : eolFrom T (T.size + 1 - s) s = none) : Miss (forSearch code2 T 0 s T.size false) := by
  by_cases hs : s < T.size
  · rw [p2_start hs]
    obtain ⟨sn', e⟩ := admitted2 (T := T) (St code2 T T.size s 10 s s true [] 0 none (({} : Sre.Seen).add 14)) rfl rfl rfl (T.size + 1 - s) s (({} : Sre.Seen).add 14)
    have e1 : M.attemptFrom (St code2 T T.size s 10 s s true [] 0 none (({} : Sre.Seen).add 14)) s true = St code2 T T.size s 10 s s true [] 0 (some false) sn' := by
      show (match M.admitted (St code2 T T.size s 10 s s true [] 0 none (({} : Sre.Seen).add 14)) (T.size + 1 - s) s (({} : Sre.Seen).add 14) with
        | .ok (some s', seen) => _
        | .ok (none, seen) => _
        | .error why => _) = _
      rw [e, h]
      rfl
    rw [e1]
    exact ⟨1, by decide, rfl⟩
  · have e : forSearch code2 T 0 s T.size false = (if (decide (s > T.size) || decide (T.size - s < 1)) = true then _ else _) := rfl
    rw [e, if_pos (by simp; omega)]
    exact ⟨1, by decide, rfl⟩
end
end Mine
end

/- part R5 -/
section
open PySem PySem.W PyProof.Rows
set_option Elab.async false
set_option maxRecDepth 100000
namespace Mine
open PySem.Sre

section
variable {T : Array Nat} {s : Nat}

/-- the first dot from a on that opens a row; f + 1 places are looked at -/
def dotFrom (T : Array Nat) : (f a : Nat) → Option Nat
  | 0, _ => none
  | f + 1, a => if (a = 0 ∨ T.getD (a - 1) 0 = 10) ∧ a < T.size ∧ T.getD a 0 = 46 then some a else dotFrom T f (a + 1)

theorem f0_no_on {lim st pc p' a hd : Nat} {o' first : Bool} {sn : Sre.Seen} (h : a < lim) : (St code1 T lim st pc p' hd o' [F0 a first 5] 1 (some false) sn).step = St code1 T lim (a + 1) 5 (a + 1) (a + 1) false [F0 (a + 1) false 5] 1 none sn := by
  show (if a < lim then _ else _) = _
  rw [if_pos h]; rfl
theorem f0_no_end {lim st pc p' a hd : Nat} {o' first : Bool} {sn : Sre.Seen} (h : ¬ a < lim) : (St code1 T lim st pc p' hd o' [F0 a first 5] 1 (some false) sn).step = St code1 T lim st 5 a hd first [] 0 (some false) sn := by
  show (if a < lim then _ else _) = _
  rw [if_neg h]; rfl

theorem run1_hit {lim a : Nat} {first : Bool} {sn : Sre.Seen} (h : (a = 0 ∨ T.getD (a - 1) 0 = 10) ∧ a < lim ∧ T.getD a 0 = 46) :
    (M.runFor 5 (St code1 T lim a 5 a a first [F0 a first 5] 1 none sn)).outcome = some .matched ∧ (M.runFor 5 (St code1 T lim a 5 a a first [F0 a first 5] 1 none sn)).start = a ∧
    (M.runFor 5 (St code1 T lim a 5 a a first [F0 a first 5] 1 none sn)).handed = a + 1 := by
  rw [runFor_succ rfl, at_step (by decide) rfl rfl, if_pos h.1, runFor_succ rfl, lit_step (c := 46) (by decide) rfl rfl, if_pos h.2, runFor_succ rfl, succ_step (by decide) rfl, runFor_succ rfl, f0_yes, runFor_succ rfl]
  exact ⟨rfl, rfl, rfl⟩

/-- a start that does not match comes to its answer in one or two steps -/
theorem run1_no {lim a : Nat} {first : Bool} {sn : Sre.Seen} (h : ¬ ((a = 0 ∨ T.getD (a - 1) 0 = 10) ∧ a < lim ∧ T.getD a 0 = 46)) :
    ∃ k pc p' hd o' sn', k ≤ 2 ∧ ∀ n, M.runFor (k + n) (St code1 T lim a 5 a a first [F0 a first 5] 1 none sn) = M.runFor n (St code1 T lim a pc p' hd o' [F0 a first 5] 1 (some false) sn') := by
  by_cases h1 : a = 0 ∨ T.getD (a - 1) 0 = 10
  · refine ⟨2, 7, a, a, first, ((sn.add 6).add 44).add 16, by omega, fun n => ?_⟩
    rw [show 2 + n = (n + 1) + 1 by omega, runFor_succ rfl, at_step (by decide) rfl rfl, if_pos h1, runFor_succ rfl, lit_step (c := 46) (by decide) rfl rfl, if_neg (fun q => h ⟨h1, q⟩)]
  · refine ⟨1, 5, a, a, first, (sn.add 6).add 44, by omega, fun n => ?_⟩
    rw [show 1 + n = n + 1 by omega, runFor_succ rfl, at_step (by decide) rfl rfl, if_neg h1]

theorem run1 : ∀ (f a : Nat) (first : Bool) (sn : Sre.Seen), T.size - a = f → a ≤ T.size →
    (∀ b, dotFrom T (f + 1) a = some b → ∃ N, N ≤ 3 * f + 5 ∧ (M.runFor N (St code1 T T.size a 5 a a first [F0 a first 5] 1 none sn)).outcome = some .matched ∧
      (M.runFor N (St code1 T T.size a 5 a a first [F0 a first 5] 1 none sn)).start = b ∧ (M.runFor N (St code1 T T.size a 5 a a first [F0 a first 5] 1 none sn)).handed = b + 1) ∧
    (dotFrom T (f + 1) a = none → ∃ N, N ≤ 3 * f + 5 ∧ (M.runFor N (St code1 T T.size a 5 a a first [F0 a first 5] 1 none sn)).outcome = some .failed)
  | f, a, first, sn, hf, ha => by
    by_cases h : (a = 0 ∨ T.getD (a - 1) 0 = 10) ∧ a < T.size ∧ T.getD a 0 = 46
    · refine ⟨fun b hb => ?_, fun hb => ?_⟩
      · unfold dotFrom at hb
        rw [if_pos h] at hb
        cases hb
        exact ⟨5, by omega, run1_hit h⟩
      · unfold dotFrom at hb
        rw [if_pos h] at hb
        cases hb
    · obtain ⟨k, pc, p', hd, o', sn', hk, e⟩ := run1_no (T := T) (lim := T.size) (first := first) (sn := sn) h
      have eD : dotFrom T (f + 1) a = dotFrom T f (a + 1) := by
        show (if _ then _ else _) = _
        rw [if_neg h]
      rw [eD]
      cases f with
      | zero =>
        refine ⟨fun b hb => (by cases hb), fun _ => ⟨k + 2, by omega, ?_⟩⟩
        rw [e 2, runFor_succ rfl, f0_no_end (by omega), runFor_succ rfl]
        rfl
      | succ f =>
        obtain ⟨i1, i2⟩ := run1 f (a + 1) false sn' (by omega) (by omega)
        refine ⟨fun b hb => ?_, fun hb => ?_⟩
        · obtain ⟨N, hN, r⟩ := i1 b hb
          refine ⟨k + (N + 1), by omega, ?_⟩
          rw [e (N + 1), runFor_succ rfl, f0_no_on (by omega)]
          exact r
        · obtain ⟨N, hN, r⟩ := i2 hb
          refine ⟨k + (N + 1), by omega, ?_⟩
          rw [e (N + 1), runFor_succ rfl, f0_no_on (by omega)]
          exact r

theorem p1_start (h : s < T.size) : forSearch code1 T 0 s T.size false = St code1 T T.size s 5 s s true [F0 s true 5] 1 none (({} : Sre.Seen).add 14) := by
  have e : forSearch code1 T 0 s T.size false = (if (decide (s > T.size) || decide (T.size - s < 1)) = true then _ else St code1 T T.size s 5 s s true [F0 s true 5] 1 none (({} : Sre.Seen).add 14)) := rfl
  rw [e, if_neg]
  simp; omega

theorem search1_hit {b : Nat} (hT : T.size < 2 ^ 50) (h : dotFrom T (T.size - s + 1) s = some b) : Hit (forSearch code1 T 0 s T.size false) b (b + 1) := by
  by_cases hs : s < T.size
  · rw [p1_start hs]
    obtain ⟨N, hN, r⟩ := (run1 (T := T) (T.size - s) s true (({} : Sre.Seen).add 14) rfl (by omega)).1 b h
    exact ⟨N, by omega, r⟩
  · rw [show T.size - s + 1 = 0 + 1 by omega] at h
    unfold dotFrom at h
    rw [if_neg (fun q => hs q.2.1)] at h
    cases h
theorem search1_miss (hT : T.size < 2 ^ 50) (h : dotFrom T (T.size - s + 1) s = none) : Miss (forSearch code1 T 0 s T.size false) := by
  by_cases hs : s < T.size
  · rw [p1_start hs]
    obtain ⟨N, hN, r⟩ := (run1 (T := T) (T.size - s) s true (({} : Sre.Seen).add 14) rfl (by omega)).2 h
    exact ⟨N, by omega, r⟩
  · have e : forSearch code1 T 0 s T.size false = (if (decide (s > T.size) || decide (T.size - s < 1)) = true then _ else _) := rfl
    rw [e, if_pos (by simp; omega)]
    exact ⟨1, by decide, rfl⟩
end
end Mine
end

/- part R6 -/
section
open PySem PySem.W PyProof.Rows
set_option Elab.async false
set_option maxRecDepth 100000
namespace Mine
open PySem.Builtin.Re

def patObj (ps : Str) (pt : Tok) (f : Int) (ft : Tok) (ct : Addr) : Obj := { cls := .type "re.Pattern", data := .fields #[.str ps pt, .int f ft, .int 0 0, .none, .none, .ref ct, .int 0 0] }
def codeObj (code : Array Nat) : Obj := { cls := .type "tuple", data := .seq (code.toList.map fun (n : Nat) => Value.int (n : Int) 0).toArray 0 }
structure PatAt (h : Heap) (pat ct : Addr) (code : Array Nat) : Prop where
  p : ∃ ps pt f ft, h.get? pat = some (patObj ps pt f ft ct)
  c : h.get? ct = some (codeObj code)
theorem PatAt.keeps {h h' : Heap} {pat ct : Addr} {code : Array Nat} (x : PatAt h pat ct code) (k : ∀ b o, h.get? b = some o → h'.get? b = some o) : PatAt h' pat ct code :=
  ⟨let ⟨ps, pt, f, ft, e⟩ := x.p; ⟨ps, pt, f, ft, k _ _ e⟩, k _ _ x.c⟩

theorem code_back (code : Array Nat) : (((some (code.toList.map fun (n : Nat) => Value.int (n : Int) 0).toArray).getD #[]).map reRawOf).map (·.toNat) = code := by
  rw [Option.getD_some]
  apply Array.toList_inj.mp
  simp only [Array.toList_map, List.map_map]
  conv => rhs; rw [← List.map_id code.toList]
  congr 1

section
variable {M : Model} {A : Around} {E : Value → Shared → Prop} {s : Shared} {pat ct : Addr} {code : Array Nat} {x : Str} {t : Tok}
theorem wp_target {Q : ReTarget → Shared → Prop} (P : PatAt s.heap pat ct code)
    (h : Q { pattern := .ref pat, string := .str x t, code := code, text := x.cps, kind := 0, groups := 0, pos := 0, lim := x.cps.size } s) :
    wpAny M A (reWholeTarget (.ref pat) (.str x t)) Q E s := by
  obtain ⟨ps, pt, f, ft, hp⟩ := P.p
  unfold reWholeTarget
  refine wpAny_bind (wpAny_fieldsOf hp rfl ?_)
  refine wpAny_bind (m := reTextOf (.str x t)) (wpAny_pure ?_)
  show wpAny M A (do let c ← reRawItems (.ref ct); pure { pattern := .ref pat, string := .str x t, code := c.map (·.toNat), text := x.cps, kind := 0, groups := 0, pos := 0, lim := x.cps.size }) Q E s
  refine wpAny_bind (m := reRawItems (.ref ct)) ?_
  unfold reRawItems
  refine wpAny_bind (wpAny_seqItems P.c rfl (wpAny_pure (wpAny_pure ?_)))
  rw [code_back]; exact h
end
end Mine
end

/- part R7 -/
section
open PySem PySem.W PyProof.Rows
set_option Elab.async false
set_option maxRecDepth 100000
namespace Mine
open PySem.Builtin.Re

def subPieces (next : Nat → Option (Nat × Nat)) (T : Array Nat) (r : Str) : (fuel done : Nat) → List Str
  | 0, _ => []
  | f + 1, d => match next d with
    | some (a, b) => (if d < a then [⟨T.extract d a⟩] else []) ++ r :: subPieces next T r f b
    | none => if d < T.size then [⟨T.extract d T.size⟩] else []

structure NextOk (next : Nat → Option (Nat × Nat)) (code T : Array Nat) : Prop where
  hit : ∀ d a b, d ≤ T.size → next d = some (a, b) → Hit (Sre.forSearch code T 0 d T.size false) a b ∧ d ≤ a ∧ a < b ∧ b ≤ T.size
  miss : ∀ d, d ≤ T.size → next d = none → Miss (Sre.forSearch code T 0 d T.size false)

theorem str_nil_append (x : Str) : (Str.mk #[]) ++ x = x := by
  cases x; show Str.mk (#[] ++ _) = _; simp

section
variable {prog : Program} {w : World} {A : Around} {s : Shared} {pat ct l : Addr} {code : Array Nat} {x r : Str} {t rt : Tok} {R : Result → Shared → Prop} {next : Nat → Option (Nat × Nat)}

theorem wp_found_hit {E : Value → Shared → Prop} {tg : ReTarget} {d a b : Nat} {Q : Option Sre.M → Shared → Prop} (h : Hit (Sre.forSearch tg.code tg.text tg.groups d tg.lim false) a b)
    (hQ : ∀ m : Sre.M, m.start = a → m.handed = b → Q (some m) s) : wpAny (model prog w) A (reNextFound tg d false) Q E s := by
  obtain ⟨N, hN, ho, h1, h2⟩ := h
  exact wp_runToEnd (yes := true) hN ho (hQ _ h1 h2)
theorem wp_found_miss {E : Value → Shared → Prop} {tg : ReTarget} {d : Nat} {Q : Option Sre.M → Shared → Prop} (h : Miss (Sre.forSearch tg.code tg.text tg.groups d tg.lim false))
    (hQ : Q none s) : wpAny (model prog w) A (reNextFound tg d false) Q E s := by
  obtain ⟨N, hN, ho⟩ := h
  exact wp_runToEnd (yes := false) hN ho hQ

/-- the pieces so far stand in the list at l -/
structure PiecesAt (h : Heap) (l : Addr) (ps : List Str) : Prop where
  is : ∃ vs k, h.get? l = some { cls := .type "list", data := .seq (List.toArray vs) k } ∧ StrsAre vs ps

theorem StrsAre.snoc {y : Str} {u : Tok} : ∀ {vs : List Value} {ys : List Str}, StrsAre vs ys → StrsAre (vs ++ [.str y u]) (ys ++ [y])
  | _, _, .nil => .cons y u .nil
  | _, _, .cons z v r => .cons z v (StrsAre.snoc r)

theorem wp_push {E : Value → Shared → Prop} {ps : List Str} {y : Str} {u : Tok} {Q : Unit → Shared → Prop} (h₀ : Heap) (hl0 : h₀.get? l = none) (hk : ∀ b o, h₀.get? b = some o → s.heap.get? b = some o) (P : PiecesAt s.heap l ps) (hn : ps.length ≤ sizeLine)
    (hQ : ∀ h', (∀ b o, h₀.get? b = some o → h'.get? b = some o) → PiecesAt h' l (ps ++ [y]) → Q () { s with heap := h' }) :
    wpAny (model prog w) A (updateSeq l (·.push (.str y u))) Q E s := by
  obtain ⟨vs, k, ho, hs⟩ := P.is
  have hlen : vs.length = ps.length := hs.length
  refine wpAny_updateSeq ho rfl (hQ _ (fun b o e => ?_) ⟨vs ++ [.str y u], k + 1, ?_, StrsAre.snoc hs⟩) (by rw [List.size_toArray]; omega) (by rw [Array.size_push, List.size_toArray]; omega)
  · rw [Heap.get?_update_ne]
    · exact hk b o e
    · intro q; rw [q, hl0] at e; cases e
  · rw [Heap.get?_update_self _ ho rfl]
    simp [Obj.mapSeq]
end
end Mine
end

/- part R8 -/
section
open PySem PySem.W PyProof.Rows
set_option Elab.async false
set_option maxRecDepth 100000
namespace Mine
open PySem.Builtin.Re

section
variable {prog : Program} {w : World} {A : Around} {pat ct l : Addr} {code : Array Nat} {x r : Str} {t rt : Tok} {R : Result → Shared → Prop} {next : Nat → Option (Nat × Nat)}

def loopArgs (pat : Addr) (x : Str) (t : Tok) (r : Str) (rt : Tok) (n : Int) (d : Nat) (l : Addr) : Args :=
  ⟨[.ref pat, .str x t, .str r rt, rawInt 0, rawInt 0, rawInt n, rawInt d, rawInt d, .bool false, .ref l, .bool false], []⟩

theorem extract_len {T : Array Nat} {a b : Nat} (h : T.size ≤ sizeLine) : (Str.mk (T.extract a b)).length ≤ sizeLine := by
  show (T.extract a b).size ≤ sizeLine
  rw [Array.size_extract]; omega

theorem sub_loop (s₀ : Shared) (P : PatAt s₀.heap pat ct code) (hl0 : s₀.heap.get? l = none) (hx : x.cps.size ≤ sizeLine) (ok : NextOk next code x.cps) :
    ∀ (f d : Nat) (n : Int) (ps : List Str) (h : Heap) (tk : Nat), x.cps.size - d < f → d ≤ x.cps.size → (∀ b o, s₀.heap.get? b = some o → h.get? b = some o) → PiecesAt h l ps →
      (ps ++ subPieces next x.cps r f d).length ≤ sizeLine → ((ps ++ subPieces next x.cps r f d).map (·.length)).sum ≤ 16777216 →
      (∀ t' h' tk', (∀ b o, s₀.heap.get? b = some o → h'.get? b = some o) → R (.ok (.ret (.str (Txt.join (Str.mk #[]) (ps ++ subPieces next x.cps r f d)) t'))) { s₀ with heap := h', toks := tk' }) →
      codeAny (model prog w) A (.builtin "re.Pattern.sub.loop" (loopArgs pat x t r rt n d l)) R { s₀ with heap := h, toks := tk }
  | 0, d, n, ps, h, tk, hf, _, _, _, _, _, _ => absurd hf (by omega)
  | f + 1, d, n, ps, h, tk, hf, hd, hk, PL, hlen, hsum, hR => by
    refine codeAny_builtin entry_loop ?_
    rw [Around.under_plainId plain_loop]
    unfold Builtin.«re.Pattern.sub.loop»
    show wpAny _ _ (do
      let tg ← reWholeTarget (.ref pat) (.str x t)
      reLiteralCannotBeTurned (.str r rt)
      match ← reNextFound tg (d : Int).toNat false with
      | some m => do
        if (d : Int).toNat < m.start then updateSeq l (·.push (← reSlice tg.text tg.kind (d : Int).toNat m.start))
        updateSeq l (·.push (.str r rt))
        again (.builtin "re.Pattern.sub.loop" ⟨[.ref pat, .str x t, .str r rt, rawInt 0, rawInt 0, rawInt (n + 1), rawInt m.handed, rawInt m.handed, .bool (m.handed == m.start), .ref l, .bool false], []⟩)
      | none => do
        if (d : Int).toNat < tg.lim then updateSeq l (·.push (← reSlice tg.text tg.kind (d : Int).toNat tg.lim))
        let joiner ← reSlice tg.text tg.kind 0 0
        let text ← if ((← seqItems? (.ref l)).getD #[]).isEmpty then pure joiner else call (.builtin (if tg.kind == 0 then "str.join" else "bytes.join")) [joiner, .ref l]
        ret text) _ _ _
    refine wpAny_bind (wp_target (P.keeps hk) ?_)
    refine wpAny_bind (m := reLiteralCannotBeTurned (.str r rt)) (wpAny_pure ?_)
    rw [Int.toNat_natCast]
    have hnl : ps.length ≤ sizeLine := by rw [List.length_append] at hlen; omega
    cases hnx : next d with
    | some ab =>
      obtain ⟨a, b⟩ := ab
      obtain ⟨hit, h1, h2, h3⟩ := ok.hit d a b hd hnx
      refine wpAny_bind (wp_found_hit hit fun m hs hh => ?_)
      dsimp only
      rw [hs, hh]
      have hbne : (b == a) = false := by simp; omega
      rw [hbne]
      have eP : subPieces next x.cps r (f + 1) d = (if d < a then [⟨x.cps.extract d a⟩] else []) ++ r :: subPieces next x.cps r f b := by
        show (match next d with | some (a, b) => _ | none => _) = _
        rw [hnx]
      rw [eP] at hlen hsum hR
      have fin : ∀ (ps' : List Str) (h' : Heap) (tk' : Nat), ps' = ps ++ (if d < a then [⟨x.cps.extract d a⟩] else []) → (∀ b o, s₀.heap.get? b = some o → h'.get? b = some o) → PiecesAt h' l ps' →
          wpAny (model prog w) A.in1 (do
            updateSeq l (·.push (.str r rt))
            again (.builtin "re.Pattern.sub.loop" ⟨[.ref pat, .str x t, .str r rt, rawInt 0, rawInt 0, rawInt (n + 1), rawInt (b : Nat), rawInt (b : Nat), .bool false, .ref l, .bool false], []⟩))
            (fun fin s' => match fin with | .done f => R (.ok f) s' | .again c' => c'.quiet = true ∧ codeAny (model prog w) A c' R s') (fun e s' => R (.error e) s') { s₀ with heap := h', toks := tk' } := by
        intro ps' h' tk' hps hk' PL'
        have hl' : ps'.length ≤ sizeLine := by rw [hps]; simp only [List.length_append] at hlen ⊢; omega
        refine wpAny_bind (wp_push s₀.heap hl0 hk' PL' hl' fun h'' hk'' PL'' => wpAny_pure ⟨plainId_quiet plain_loop _, ?_⟩)
        have e1 : ps ++ ((if d < a then [⟨x.cps.extract d a⟩] else []) ++ r :: subPieces next x.cps r f b) = (ps' ++ [r]) ++ subPieces next x.cps r f b := by
          rw [hps]; simp
        refine sub_loop s₀ P hl0 hx ok f b (n + 1) (ps' ++ [r]) h'' tk' (by omega) h3 hk'' PL'' (e1 ▸ hlen) (e1 ▸ hsum) (e1 ▸ hR)
      by_cases hda : d < a
      · rw [if_pos hda]
        refine wpAny_bind (m := reSlice x.cps 0 d a) (wpAny_mkStr ?_ (extract_len hx))
        refine wpAny_bind (wp_push s₀.heap hl0 hk PL hnl fun h' hk' PL' => ?_)
        exact fin _ _ _ (by rw [if_pos hda]) hk' PL'
      · rw [if_neg hda]
        refine fin ps h tk (by rw [if_neg hda, List.append_nil]) hk PL
    | none =>
      have mis := ok.miss d hd hnx
      refine wpAny_bind (wp_found_miss mis ?_)
      dsimp only
      have eP : subPieces next x.cps r (f + 1) d = (if d < x.cps.size then [⟨x.cps.extract d x.cps.size⟩] else []) := by
        show (match next d with | some (a, b) => _ | none => _) = _
        rw [hnx]
      rw [eP] at hlen hsum hR
      have fin : ∀ (ps' : List Str) (h' : Heap) (tk' : Nat), ps' = ps ++ (if d < x.cps.size then [⟨x.cps.extract d x.cps.size⟩] else []) → (∀ b o, s₀.heap.get? b = some o → h'.get? b = some o) → PiecesAt h' l ps' →
          wpAny (model prog w) A.in1 (do
            let joiner ← reSlice x.cps 0 0 0
            let text ← if ((← seqItems? (.ref l)).getD #[]).isEmpty then pure joiner else call (.builtin (if (0 : Nat) == 0 then "str.join" else "bytes.join")) [joiner, .ref l]
            ret text)
            (fun fin s' => match fin with | .done f => R (.ok f) s' | .again c' => c'.quiet = true ∧ codeAny (model prog w) A c' R s') (fun e s' => R (.error e) s') { s₀ with heap := h', toks := tk' } := by
        intro ps' h' tk' hps hk' PL'
        rw [← hps] at hlen hsum hR
        refine wpAny_bind (m := reSlice x.cps 0 0 0) (wpAny_mkStr ?_ (extract_len hx))
        have e0 : (Str.mk (x.cps.extract 0 0)) = Str.mk #[] := by simp
        obtain ⟨vs, k, ho, hs⟩ := PL'.is
        refine wpAny_bind (wpAny_seqItems ho rfl ?_)
        cases hs with
        | nil =>
          refine wpAny_pure ?_
          dsimp only
          rw [e0]
          exact hR _ _ _ hk'
        | cons y u rest =>
          rename_i vs' ys'
          rw [if_neg (show ¬ ((some (List.toArray (Value.str y u :: vs'))).getD #[]).isEmpty = true from Bool.false_ne_true)]
          refine wpAny_bind ?_
          show wpAny _ _ (call (.builtin "str.join") [.str (Str.mk (x.cps.extract 0 0)) _, .ref l]) _ _ _
          rw [e0]
          refine join_list (items := List.toArray (Value.str y u :: vs')) ⟨_, ho, rfl, k, rfl⟩ (.cons y u rest) (by
            show _ + _ * 0 ≤ _
            rw [Nat.mul_zero, Nat.add_zero]; exact hsum) fun t' k' => ?_
          exact wpAny_pure (hR _ _ _ hk')
      by_cases hda : d < x.cps.size
      · rw [if_pos hda]
        refine wpAny_bind (m := reSlice x.cps 0 d x.cps.size) (wpAny_mkStr ?_ (extract_len hx))
        refine wpAny_bind (wp_push s₀.heap hl0 hk PL hnl fun h' hk' PL' => ?_)
        exact fin _ _ _ (by rw [if_pos hda]) hk' PL'
      · rw [if_neg hda]
        refine fin ps h tk (by rw [if_neg hda, List.append_nil]) hk PL
end
end Mine
end

/- part R9 -/
section
open PySem PySem.W PyProof.Rows
set_option Elab.async false
set_option maxRecDepth 100000
namespace Mine
open PySem.Builtin.Re

theorem str_no_call : typeLookup (.type "str") (Str.ofString "__call__") = pure none := by rw [typeLookup_type, builtinLookup_eq_fast]; kernel_rfl
theorem named3 (a b : Value) : reNamed "re.Pattern.sub" "sub" ["repl", "string", "count"] 2 [a, b] [] = pure [some a, some b, none] := by rfl
section
variable {prog : Program} {w : World} {A : Around} {E : Value → Shared → Prop} {s : Shared} {pat ct : Addr} {code : Array Nat} {x r : Str} {t rt : Tok} {next : Nat → Option (Nat × Nat)} {Q : Value → Shared → Prop}
theorem call_sub (P : PatAt s.heap pat ct code) (hr : r.cps.contains 92 = false) (hx : x.cps.size ≤ sizeLine) (ok : NextOk next code x.cps)
    (hlen : (subPieces next x.cps r (x.cps.size + 1) 0).length ≤ sizeLine) (hsum : ((subPieces next x.cps r (x.cps.size + 1) 0).map (·.length)).sum ≤ 16777216)
    (h : ∀ t' h' tk', (∀ b o, s.heap.get? b = some o → h'.get? b = some o) → Q (.str (Txt.join (Str.mk #[]) (subPieces next x.cps r (x.cps.size + 1) 0)) t') { s with heap := h', toks := tk' }) :
    wpAny (model prog w) A (call (.builtin "re.Pattern.sub") [.ref pat, .str r rt, .str x t]) Q E s := by
  have hT : s.TypeIs (.ref pat) "re.Pattern" := by
    obtain ⟨ps, pt, f, ft, e⟩ := P.p
    exact ⟨_, e, rfl⟩
  refine wpAny_call (codeAny_call_builtin slot_sub.plain entry_sub (slot_sub.check _ _ _ _ _ _ _ _ hT (args_sub _ _ _) ?_))
  unfold Builtin.«re.Pattern.sub» reSubstitute
  dsimp only
  rw [named3]
  refine wpAny_bind (wpAny_pure ?_)
  dsimp only
  refine wpAny_bind (wpAny_pure ?_)
  refine wpAny_bind (wpAny_specialOf (T := "str") (typeIs_str _ _ _) str_no_call ?_)
  refine wpAny_bind (m := asStr? (.str r rt)) (wpAny_pure ?_)
  dsimp only
  rw [hr]
  show wpAny _ _ (do let _ ← holding [.str r rt] (reWholeTarget (.ref pat) (.str x t)); again (.builtin "re.Pattern.sub.loop" ⟨[.ref pat, .str x t, .str r rt, rawInt 0, rawInt 0, rawInt 0, rawInt 0, rawInt 0, .bool false, ← newList [], .bool false], []⟩)) _ _ _
  refine wpAny_bind (wpAny_holding (wp_target P ?_))
  refine wpAny_bind (wpAny_newList (wpAny_pure ⟨plainId_quiet plain_loop _, ?_⟩))
  have hl0 : s.heap.get? s.heap.objs.size = none := Heap.get?_none_of_le (Nat.le_refl _)
  refine sub_loop (next := next) s P hl0 hx ok (x.cps.size + 1) 0 0 [] _ s.toks (by omega) (by omega) (fun b o e => Heap.get?_push_of_some _ e) ⟨[], 0, Heap.get?_push_size _ rfl, .nil⟩ (by simpa using hlen) (by simpa using hsum) ?_
  intro t' h' tk' hk
  exact h t' h' tk' hk
end
end Mine
end

/- part P1 -/
section
open PySem PySem.W PyProof.Rows
set_option Elab.async false
set_option maxRecDepth 100000
namespace Mine

/-- the ends of rows, each made return and feed -/
def fixL : List Nat → List Nat
  | [] => []
  | [c] => if c = 10 ∨ c = 13 then [13, 10] else [c]
  | c :: d :: r => if c = 13 ∧ d = 10 then 13 :: 10 :: fixL r else if c = 10 ∨ c = 13 then 13 :: 10 :: fixL (d :: r) else c :: fixL (d :: r)
/-- a dot that opens a row, twice -/
def dotsL : Bool → List Nat → List Nat
  | _, [] => []
  | b, c :: r => if b = true ∧ c = 46 then 46 :: 46 :: dotsL false r else c :: dotsL (c == 10) r

theorem fixL_plain {c : Nat} {r : List Nat} (h : ¬ (c = 10 ∨ c = 13)) : fixL (c :: r) = c :: fixL r := by
  have h13 : ¬ c = 13 := fun e => h (.inr e)
  have h10 : ¬ c = 10 := fun e => h (.inl e)
  cases r with
  | nil => simp [fixL, h]
  | cons d r => simp [fixL, h10, h13]
theorem fixL_lf {r : List Nat} : fixL (10 :: r) = 13 :: 10 :: fixL r := by
  cases r with
  | nil => simp [fixL]
  | cons d r => simp [fixL]
theorem fixL_crlf {r : List Nat} : fixL (13 :: 10 :: r) = 13 :: 10 :: fixL r := by simp [fixL]
theorem fixL_cr {r : List Nat} (h : r.head? ≠ some 10) : fixL (13 :: r) = 13 :: 10 :: fixL r := by
  cases r with
  | nil => simp [fixL]
  | cons d r =>
    have hd : ¬ d = 10 := fun e => h (by rw [e]; rfl)
    simp [fixL, hd]

def crlf : Str := Str.mk #[13, 10]
def next2 (T : Array Nat) (d : Nat) : Option (Nat × Nat) := (eolFrom T (T.size + 1 - d) d).map fun a => (a, eolEnd T a)
def next1 (T : Array Nat) (d : Nat) : Option (Nat × Nat) := (dotFrom T (T.size - d + 1) d).map fun b => (b, b + 1)

section
variable {T : Array Nat}
theorem drop_cons {d : Nat} (h : d < T.size) : T.toList.drop d = T.getD d 0 :: T.toList.drop (d + 1) := by
  have h' : d < T.toList.length := by simpa using h
  rw [List.drop_eq_getElem_cons h']
  congr 1
  simp [Array.getD, h]
theorem drop_end {d : Nat} (h : T.size ≤ d) : T.toList.drop d = [] := List.drop_eq_nil_of_le (by simpa using h)
theorem extract_cons {d a : Nat} (h : d < a) (ha : a ≤ T.size) : (T.extract d a).toList = T.getD d 0 :: (T.extract (d + 1) a).toList := by
  have e : ∀ i j, (T.extract i j).toList = (T.toList.drop i).take (j - i) := by intro i j; simp
  rw [e, e, drop_cons (by omega), show a - d = (a - (d + 1)) + 1 by omega, List.take_succ_cons]
theorem extract_nil {d : Nat} : (T.extract d d).toList = [] := by simp
theorem extract_all {d : Nat} : (T.extract d T.size).toList = T.toList.drop d := by
  have e : ∀ i j, (T.extract i j).toList = (T.toList.drop i).take (j - i) := by intro i j; simp
  rw [e]; exact List.take_of_length_le (by simp)
theorem eolEnd_gt (a : Nat) : a < eolEnd T a := by
  unfold eolEnd
  by_cases h : T.getD a 0 = 13 ∧ a + 1 < T.size ∧ T.getD (a + 1) 0 = 10
  · rw [if_pos h]; omega
  · rw [if_neg h]; omega
theorem eolEnd_le {a : Nat} (ha : a < T.size) : eolEnd T a ≤ T.size := by
  unfold eolEnd
  by_cases h : T.getD a 0 = 13 ∧ a + 1 < T.size ∧ T.getD (a + 1) 0 = 10
  · rw [if_pos h]; omega
  · rw [if_neg h]; omega

theorem eolFrom_ge : ∀ {f d a : Nat}, eolFrom T f d = some a → d ≤ a
  | 0, d, a, h => by cases h
  | f + 1, d, a, h => by
    unfold eolFrom at h
    split at h
    · cases h
    · split at h
      · cases h; exact Nat.le_refl _
      · have := eolFrom_ge h; omega
theorem eol_run : ∀ (f d : Nat), T.size + 1 - d = f → d ≤ T.size →
    (∀ a, eolFrom T f d = some a → fixL (T.toList.drop d) = (T.extract d a).toList ++ fixL (T.toList.drop a)) ∧ (eolFrom T f d = none → fixL (T.toList.drop d) = T.toList.drop d)
  | 0, d, hf, hd => absurd hf (by omega)
  | f + 1, d, hf, hd => by
    unfold eolFrom
    by_cases h1 : d ≥ T.size
    · rw [if_pos h1]
      refine ⟨fun a h => (by cases h), fun _ => ?_⟩
      rw [drop_end h1]; rfl
    · rw [if_neg h1]
      by_cases h2 : (T.getD d 0 == 10 || T.getD d 0 == 13) = true
      · rw [if_pos h2]
        refine ⟨fun a h => ?_, fun h => (by cases h)⟩
        cases h
        rw [extract_nil]; rfl
      · rw [if_neg h2]
        have hc : ¬ (T.getD d 0 = 10 ∨ T.getD d 0 = 13) := by simpa [-Array.getD_eq_getD_getElem?] using h2
        obtain ⟨i1, i2⟩ := eol_run f (d + 1) (by omega) (by omega)
        refine ⟨fun a h => ?_, fun h => ?_⟩
        · have hge := eolFrom_ge h
          have hlt := (eolFrom_some h).1
          rw [drop_cons (by omega), fixL_plain hc, i1 a h, extract_cons (d := d) (by omega) (by omega)]; rfl
        · rw [drop_cons (by omega), fixL_plain hc, i2 h]
theorem eol_hit {a : Nat} (h : a < T.size) (hc : T.getD a 0 = 10 ∨ T.getD a 0 = 13) : fixL (T.toList.drop a) = 13 :: 10 :: fixL (T.toList.drop (eolEnd T a)) := by
  unfold eolEnd
  rw [drop_cons h]
  rcases hc with hc | hc
  · rw [if_neg (by rw [hc]; omega), hc, fixL_lf]
  · by_cases h2 : a + 1 < T.size ∧ T.getD (a + 1) 0 = 10
    · rw [if_pos ⟨hc, h2⟩, hc, drop_cons h2.1, h2.2, fixL_crlf]
    · rw [if_neg (fun q => h2 q.2), hc, fixL_cr]
      intro e
      apply h2
      by_cases h3 : a + 1 < T.size
      · rw [drop_cons h3] at e
        exact ⟨h3, by simpa [-Array.getD_eq_getD_getElem?] using e⟩
      · rw [drop_end (by omega)] at e; cases e

theorem next2_ok : NextOk (next2 T) code2 T := by
  refine ⟨fun d a b hd h => ?_, fun d hd h => ?_⟩
  · unfold next2 at h
    cases e : eolFrom T (T.size + 1 - d) d with
    | none => rw [e] at h; cases h
    | some a' =>
      rw [e] at h
      cases h
      obtain ⟨hlt, hc⟩ := eolFrom_some e
      have hge := eolFrom_ge e
      exact ⟨search2_hit (by omega) e, hge, eolEnd_gt _, eolEnd_le hlt⟩
  · unfold next2 at h
    cases e : eolFrom T (T.size + 1 - d) d with
    | none => exact search2_miss e
    | some a' => rw [e] at h; cases h

theorem pieces2 : ∀ (f d : Nat), T.size - d < f → d ≤ T.size → (subPieces (next2 T) T crlf f d).flatMap (fun p => p.cps.toList) = fixL (T.toList.drop d)
  | 0, d, hf, _ => absurd hf (by omega)
  | f + 1, d, hf, hd => by
    unfold subPieces next2
    obtain ⟨i1, i2⟩ := eol_run (T := T) (T.size + 1 - d) d rfl hd
    cases e : eolFrom T (T.size + 1 - d) d with
    | none =>
      rw [Option.map_none, i2 e]
      by_cases h : d < T.size
      · show List.flatMap _ (if d < T.size then _ else []) = _
        rw [if_pos h, List.flatMap_cons, List.flatMap_nil, List.append_nil]
        exact extract_all
      · show List.flatMap _ (if d < T.size then _ else []) = _
        rw [if_neg h, drop_end (by omega : T.size ≤ d)]; rfl
    | some a =>
      obtain ⟨hlt, hc⟩ := eolFrom_some e
      have hge := eolFrom_ge e
      rw [Option.map_some, i1 a e, eol_hit hlt hc]
      have hb : eolEnd T a ≤ T.size := eolEnd_le hlt
      have hb' : a < eolEnd T a := eolEnd_gt a
      have ih := pieces2 f (eolEnd T a) (by omega) hb
      show List.flatMap _ ((if d < a then _ else []) ++ crlf :: subPieces (next2 T) T crlf f (eolEnd T a)) = _
      rw [List.flatMap_append, List.flatMap_cons, ih]
      by_cases h : d < a
      · rw [if_pos h, List.flatMap_cons, List.flatMap_nil, List.append_nil]; rfl
      · have : d = a := by omega
        subst this
        rw [if_neg h, extract_nil]; rfl
end
end Mine
end

/- part P2 -/
section
open PySem PySem.W PyProof.Rows
set_option Elab.async false
set_option maxRecDepth 100000
namespace Mine
section
variable {T : Array Nat}
def bol (T : Array Nat) (d : Nat) : Bool := decide (d = 0 ∨ T.getD (d - 1) 0 = 10)
theorem bol_succ (d : Nat) : bol T (d + 1) = (T.getD d 0 == 10) := by
  unfold bol
  rw [Nat.add_sub_cancel]
  by_cases h : T.getD d 0 = 10
  · rw [h]; simp
  · have e : (T.getD d 0 == 10) = false := by rw [Bool.eq_false_iff]; intro q; exact h (eq_of_beq q)
    rw [e]; exact decide_eq_false (fun q => q.elim (by omega) h)

theorem dotFrom_ge : ∀ {f d b : Nat}, dotFrom T f d = some b → d ≤ b
  | 0, d, b, h => by cases h
  | f + 1, d, b, h => by
    unfold dotFrom at h
    split at h
    · cases h; exact Nat.le_refl _
    · have := dotFrom_ge h; omega
theorem dotFrom_some : ∀ {f d b : Nat}, dotFrom T f d = some b → bol T b = true ∧ b < T.size ∧ T.getD b 0 = 46
  | 0, d, b, h => by cases h
  | f + 1, d, b, h => by
    unfold dotFrom at h
    by_cases hc : (d = 0 ∨ T.getD (d - 1) 0 = 10) ∧ d < T.size ∧ T.getD d 0 = 46
    · rw [if_pos hc] at h
      cases h; exact ⟨decide_eq_true hc.1, hc.2⟩
    · rw [if_neg hc] at h
      exact dotFrom_some h
theorem dot_run : ∀ (f d : Nat), T.size - d + 1 = f → d ≤ T.size →
    (∀ b, dotFrom T f d = some b → dotsL (bol T d) (T.toList.drop d) = (T.extract d b).toList ++ dotsL (bol T b) (T.toList.drop b)) ∧ (dotFrom T f d = none → dotsL (bol T d) (T.toList.drop d) = T.toList.drop d)
  | 0, d, hf, hd => absurd hf (by omega)
  | f + 1, d, hf, hd => by
    unfold dotFrom
    by_cases hc : (d = 0 ∨ T.getD (d - 1) 0 = 10) ∧ d < T.size ∧ T.getD d 0 = 46
    · rw [if_pos hc]
      refine ⟨fun b h => ?_, fun h => (by cases h)⟩
      cases h
      rw [extract_nil]; rfl
    · rw [if_neg hc]
      by_cases h1 : d < T.size
      · obtain ⟨i1, i2⟩ := dot_run f (d + 1) (by omega) (by omega)
        have step : dotsL (bol T d) (T.toList.drop d) = T.getD d 0 :: dotsL (bol T (d + 1)) (T.toList.drop (d + 1)) := by
          rw [drop_cons h1, bol_succ]
          have hn : ¬ (bol T d = true ∧ T.getD d 0 = 46) := fun q => hc ⟨of_decide_eq_true q.1, h1, q.2⟩
          show (if _ then _ else _) = _
          rw [if_neg hn]
        refine ⟨fun b h => ?_, fun h => ?_⟩
        · have hge := dotFrom_ge h
          have hlt := (dotFrom_some h).2.1
          rw [step, i1 b h, extract_cons (d := d) (by omega) (by omega)]; rfl
        · rw [step, i2 h, drop_cons (d := d) h1]
      · have e0 : f = 0 := by omega
        subst e0
        refine ⟨fun b h => (by cases h), fun _ => ?_⟩
        rw [drop_end (by omega)]; rfl
theorem dot_hit {b : Nat} (h : bol T b = true ∧ b < T.size ∧ T.getD b 0 = 46) : dotsL (bol T b) (T.toList.drop b) = 46 :: 46 :: dotsL (bol T (b + 1)) (T.toList.drop (b + 1)) := by
  rw [drop_cons h.2.1, bol_succ, h.2.2, h.1]; rfl

theorem next1_ok (hT : T.size < 2 ^ 50) : NextOk (next1 T) code1 T := by
  refine ⟨fun d a b hd h => ?_, fun d hd h => ?_⟩
  · unfold next1 at h
    cases e : dotFrom T (T.size - d + 1) d with
    | none => rw [e] at h; cases h
    | some a' =>
      rw [e] at h
      cases h
      have hs := dotFrom_some e
      exact ⟨search1_hit hT e, dotFrom_ge e, by omega, by omega⟩
  · unfold next1 at h
    cases e : dotFrom T (T.size - d + 1) d with
    | none => exact search1_miss hT e
    | some a' => rw [e] at h; cases h

def dd : Str := Str.mk #[46, 46]
theorem pieces1 : ∀ (f d : Nat), T.size - d < f → d ≤ T.size → (subPieces (next1 T) T dd f d).flatMap (fun p => p.cps.toList) = dotsL (bol T d) (T.toList.drop d)
  | 0, d, hf, _ => absurd hf (by omega)
  | f + 1, d, hf, hd => by
    unfold subPieces next1
    obtain ⟨i1, i2⟩ := dot_run (T := T) (T.size - d + 1) d rfl hd
    cases e : dotFrom T (T.size - d + 1) d with
    | none =>
      rw [Option.map_none, i2 e]
      by_cases h : d < T.size
      · show List.flatMap _ (if d < T.size then _ else []) = _
        rw [if_pos h, List.flatMap_cons, List.flatMap_nil, List.append_nil]
        exact extract_all
      · show List.flatMap _ (if d < T.size then _ else []) = _
        rw [if_neg h, drop_end (by omega : T.size ≤ d)]; rfl
    | some b =>
      have hs := dotFrom_some e
      have hge := dotFrom_ge e
      rw [Option.map_some, i1 b e, dot_hit hs]
      have ih := pieces1 f (b + 1) (by omega) (by omega)
      show List.flatMap _ ((if d < b then _ else []) ++ dd :: subPieces (next1 T) T dd f (b + 1)) = _
      rw [List.flatMap_append, List.flatMap_cons, ih]
      by_cases h : d < b
      · rw [if_pos h, List.flatMap_cons, List.flatMap_nil, List.append_nil]; rfl
      · have : d = b := by omega
        subst this
        rw [if_neg h, extract_nil]; rfl

/-- how many pieces, how long -/
theorem pieces_few {next : Nat → Option (Nat × Nat)} {r : Str} (ok : ∀ d a b, d ≤ T.size → next d = some (a, b) → d ≤ a ∧ a < b ∧ b ≤ T.size) :
    ∀ (f d : Nat), d ≤ T.size → (subPieces next T r f d).length ≤ 2 * (T.size - d) + 1 ∧ ((subPieces next T r f d).map (·.length)).sum ≤ (T.size - d) * (r.length + 1)
  | 0, d, _ => by simp [subPieces]
  | f + 1, d, hd => by
    unfold subPieces
    cases e : next d with
    | none =>
      dsimp only
      by_cases h : d < T.size
      · rw [if_pos h]
        refine ⟨by simp, ?_⟩
        simp only [List.map_cons, List.map_nil, List.sum_cons, List.sum_nil, Nat.add_zero]
        show (T.extract d T.size).size ≤ _
        rw [Array.size_extract]
        have : T.size - d ≤ (T.size - d) * (r.length + 1) := Nat.le_mul_of_pos_right _ (by omega)
        omega
      · rw [if_neg h]; simp
    | some ab =>
      obtain ⟨a, b⟩ := ab
      obtain ⟨h1, h2, h3⟩ := ok d a b hd e
      obtain ⟨i1, i2⟩ := pieces_few (r := r) ok f b h3
      dsimp only
      have hm : (T.size - b) * (r.length + 1) + (r.length + 1) + (a - d) ≤ (T.size - d) * (r.length + 1) := by
        have e1 : T.size - d = (T.size - b) + 1 + (b - d - 1) := by omega
        rw [e1, Nat.add_mul, Nat.add_mul, Nat.one_mul]
        have : b - d - 1 ≤ (b - d - 1) * (r.length + 1) := Nat.le_mul_of_pos_right _ (by omega)
        omega
      by_cases h : d < a
      · rw [if_pos h]
        simp only [List.cons_append, List.nil_append, List.length_cons, List.map_cons, List.sum_cons]
        have hx : (Str.mk (T.extract d a)).length = a - d := by
          show (T.extract d a).size = _
          rw [Array.size_extract]; omega
        rw [hx]
        constructor <;> omega
      · rw [if_neg h]
        simp only [List.nil_append, List.length_cons, List.map_cons, List.sum_cons]
        constructor <;> omega
end
end Mine
end

/- part P3 -/
section
open PySem PySem.W PyProof.Rows
set_option Elab.async false
set_option maxRecDepth 100000
namespace Mine

def S (l : List Nat) : Str := ⟨l.toArray⟩
theorem S_cps (l : List Nat) : (S l).cps.toList = l := rfl
theorem S_of (x : Str) : S x.cps.toList = x := by cases x; simp [S]
theorem S_length (l : List Nat) : (S l).length = l.length := by simp [S, Str.length]
theorem S_append (a b : List Nat) : S a ++ S b = S (a ++ b) := Str.ext' (by simp [S, Str.cps_append])
theorem S_inj {a b : List Nat} (h : S a = S b) : a = b := by
  have := congrArg (fun x => x.cps.toList) h
  simpa [S_cps] using this
theorem S_beq (a b : List Nat) : (S a == S b) = (a == b) := by
  rw [Bool.eq_iff_iff, beq_iff_eq, beq_iff_eq]
  exact ⟨S_inj, fun h => by rw [h]⟩

theorem join_nil_eq : ∀ (ps : List Str), Str.join (Str.mk #[]) ps = S (ps.flatMap fun p => p.cps.toList)
  | [] => rfl
  | [x] => by rw [List.flatMap_cons, List.flatMap_nil, List.append_nil, S_of]; rfl
  | x :: y :: r => by
    have ih := join_nil_eq (y :: r)
    show x ++ Str.mk #[] ++ Str.join (Str.mk #[]) (y :: r) = _
    rw [ih, show (x :: y :: r).flatMap (fun p => p.cps.toList) = x.cps.toList ++ (y :: r).flatMap (fun p => p.cps.toList) from List.flatMap_cons, ← S_append, S_of]
    congr 1
theorem tjoin_eq (sep : Str) (ps : List Str) : Txt.join sep ps = Str.join sep ps := StrLaws.glued_eq_join sep ps

section
variable {prog : Program} {w : World} {A : Around} {E : Value → Shared → Prop} {s : Shared} {pat ct : Addr} {l : List Nat} {t rt : Tok} {Q : Value → Shared → Prop}
theorem call_eol (P : PatAt s.heap pat ct code2) (hx : l.length ≤ 100000)
    (h : ∀ t' h' tk', (∀ b o, s.heap.get? b = some o → h'.get? b = some o) → Q (.str (S (fixL l)) t') { s with heap := h', toks := tk' }) :
    wpAny (model prog w) A (call (.builtin "re.Pattern.sub") [.ref pat, .str crlf rt, .str (S l) t]) Q E s := by
  have hsz : (S l).cps.size = l.length := by simp [S]
  have ok := next2_ok (T := (S l).cps)
  obtain ⟨f1, f2⟩ := pieces_few (T := (S l).cps) (next := next2 (S l).cps) (r := crlf) (fun d a b hd e => (ok.hit d a b hd e).2) ((S l).cps.size + 1) 0 (Nat.zero_le _)
  have e2 : crlf.length = 2 := rfl
  refine call_sub P (by decide +kernel) (by rw [hsz, sizeLine_eq]; omega) ok (by rw [sizeLine_eq]; omega) (by rw [e2] at f2; omega) fun t' h' tk' hk => ?_
  rw [tjoin_eq, join_nil_eq, pieces2 _ _ (by omega) (Nat.zero_le _)]
  exact h t' h' tk' hk
theorem call_dots (P : PatAt s.heap pat ct code1) (hx : l.length ≤ 100000)
    (h : ∀ t' h' tk', (∀ b o, s.heap.get? b = some o → h'.get? b = some o) → Q (.str (S (dotsL true l)) t') { s with heap := h', toks := tk' }) :
    wpAny (model prog w) A (call (.builtin "re.Pattern.sub") [.ref pat, .str dd rt, .str (S l) t]) Q E s := by
  have hsz : (S l).cps.size = l.length := by simp [S]
  have ok := next1_ok (T := (S l).cps) (by omega)
  obtain ⟨f1, f2⟩ := pieces_few (T := (S l).cps) (next := next1 (S l).cps) (r := dd) (fun d a b hd e => (ok.hit d a b hd e).2) ((S l).cps.size + 1) 0 (Nat.zero_le _)
  have e2 : dd.length = 2 := rfl
  refine call_sub P (by decide +kernel) (by rw [hsz, sizeLine_eq]; omega) ok (by rw [sizeLine_eq]; omega) (by rw [e2] at f2; omega) fun t' h' tk' hk => ?_
  rw [tjoin_eq, join_nil_eq, pieces1 _ _ (by omega) (Nat.zero_le _)]
  exact h t' h' tk' hk
end
end Mine
end

/- part W2 -/
section
open PySem PySem.W PyProof.Rows
set_option Elab.async false
set_option maxRecDepth 100000
set_option maxHeartbeats 4000000
namespace Mine
theorem k55 (P : Params) : (Mine.hd.heap_39 P).lookup 55 = some (patObj (Str.ofString "(?:\\r\\n|\\n|\\r(?!\\n))") 320 32 359 54) := rfl
theorem k54 (P : Params) : (Mine.hd.heap_39 P).lookup 54 = some (codeObj code2) := rfl
theorem k50 (P : Params) : (Mine.hd.heap_39 P).lookup 50 = some (patObj (Str.ofString "(?m)^\\.") 304 40 317 49) := rfl
theorem k49 (P : Params) : (Mine.hd.heap_39 P).lookup 49 = some (codeObj code1) := rfl
theorem pat55 {P : Params} {h : Heap} (X : (Mine.hd.heap_39 P).In h) : PatAt h 55 54 code2 := ⟨⟨_, _, _, _, X _ _ (k55 P)⟩, X _ _ (k54 P)⟩
theorem pat50 {P : Params} {h : Heap} (X : (Mine.hd.heap_39 P).In h) : PatAt h 50 49 code1 := ⟨⟨_, _, _, _, X _ _ (k50 P)⟩, X _ _ (k49 P)⟩

section
variable {prog : Program} {w : World} {A : Around} {E : Value → Shared → Prop} {s : Shared} {h₀ : Heap} {L : Addr} {m : Str → Option Value} {news : List (Addr × Obj)} {P : Params}
theorem gm_sub {pat ct : Addr} {code : Array Nat} {pl : Sem Bool} {Q : Value × List Value → Shared → Prop} (hp : PatAt s.heap pat ct code) (h : Q (.builtin "re.Pattern.sub", [.ref pat]) s) :
    wpAny (model prog w) A (getMethod (.ref pat) (Str.ofString "sub") pl) Q E s := by
  obtain ⟨ps, pt, f, ft, e⟩ := hp.p
  exact getMethod_builtin ⟨_, e, rfl⟩ plainAttrs_pat slot_sub type_sub (fun a ha => by cases ha; exact ⟨_, e, rfl⟩) h
theorem gm55 {pl : Sem Bool} {Q : Value × List Value → Shared → Prop} (F : Fr h₀ L s.heap m) (X : (Mine.hd.heap_39 P).In h₀) (h : Q (.builtin "re.Pattern.sub", [.ref 55]) s) :
    wpAny (model prog w) A (getMethod (.ref 55) (Str.ofString "sub") pl) Q E s := gm_sub (pat55 (X.keeps F.keep)) h
theorem gm50 {pl : Sem Bool} {Q : Value × List Value → Shared → Prop} (F : Fr h₀ L s.heap m) (X : (Mine.hd.heap_39 P).In h₀) (h : Q (.builtin "re.Pattern.sub", [.ref 50]) s) :
    wpAny (model prog w) A (getMethod (.ref 50) (Str.ofString "sub") pl) Q E s := gm_sub (pat50 (X.keeps F.keep)) h
theorem sub55 {l : List Nat} {t rt : Tok} {Q : Value → Shared → Prop} (F : Fr h₀ L s.heap m) (N : News h₀ L s.heap news) (X : (Mine.hd.heap_39 P).In h₀) (hx : l.length ≤ 100000)
    (h : ∀ t' h' tk', Fr h₀ L h' m → News h₀ L h' news → Q (.str (S (fixL l)) t') { s with heap := h', toks := tk' }) :
    wpAny (model prog w) A (call (.builtin "re.Pattern.sub") [.ref 55, .str (Str.ofString "\x0d\n") rt, .str (S l) t]) Q E s := by
  rw [show Str.ofString "\x0d\n" = crlf from by decide +kernel]
  exact call_eol (pat55 (X.keeps F.keep)) hx fun t' h' tk' hk => h t' h' tk' (F.keeps hk) (N.grown hk)
theorem sub50 {l : List Nat} {t rt : Tok} {Q : Value → Shared → Prop} (F : Fr h₀ L s.heap m) (N : News h₀ L s.heap news) (X : (Mine.hd.heap_39 P).In h₀) (hx : l.length ≤ 100000)
    (h : ∀ t' h' tk', Fr h₀ L h' m → News h₀ L h' news → Q (.str (S (dotsL true l)) t') { s with heap := h', toks := tk' }) :
    wpAny (model prog w) A (call (.builtin "re.Pattern.sub") [.ref 50, .str (Str.ofString "..") rt, .str (S l) t]) Q E s := by
  rw [show Str.ofString ".." = dd from by decide +kernel]
  exact call_dots (pat50 (X.keeps F.keep)) hx fun t' h' tk' hk => h t' h' tk' (F.keeps hk) (N.grown hk)
end
end Mine
end

/- part W3 -/
section
open PySem PySem.W PyProof.Rows
set_option Elab.async false
set_option maxRecDepth 100000
set_option maxHeartbeats 4000000
namespace Mine
local macro_rules | `(tactic| walk_at "getMethod ref") => `(tactic| (k_here; k_dflt (first | refine' gm55 ?k1 ?k2 ?_ | refine' gm50 ?k1 ?k2 ?_); (case k1 => k_asm); (case k2 => k_asm); k_whole))
local macro_rules | `(tactic| walk_at "call builtin:re.Pattern.sub") => `(tactic| (k_here; k_dflt (first | refine' sub55 ?k1 ?k2 ?k3 ?k4 ?_ | refine' sub50 ?k1 ?k2 ?k3 ?k4 ?_); (case k1 => k_asm); (case k2 => k_asm); (case k3 => k_asm); (case k4 => first | assumption | omega); k_whole; intro t' h' tk' F' N'))
section
variable {w : World} {p : Program} {loose : List Str} {mean : ExcName → Option Value} {mg mb : Str → Option Value}
theorem c_fix (x : List Nat) (t : Tok) (hx : x.length ≤ 40000) (news : List (Addr × Obj)) :
    CbClaim PySem.Challenge.rw_pk0022_01.row.prog w (Mine.hd.heap_39 w.params) p loose mean mg mb 69 news [] True [.str (S x) t] (fun t' => .str (S (fixL x)) t') := by
  w_on
  k_fill
  dsimp only [CbClaim, CbLists, CbRet]
  intros
  rename_i hret
  refine wpAny_call ?_
  k_dflt cell_enter
  k_steps
  all_goals exact hret _ _ _ (by k_asm) (by k_asm)
theorem fixL_len : ∀ l : List Nat, (fixL l).length ≤ 2 * l.length
  | [] => by simp [fixL]
  | [c] => by unfold fixL; split <;> simp
  | c :: d :: r => by
    have h1 := fixL_len r
    have h2 := fixL_len (d :: r)
    simp only [List.length_cons] at h2
    unfold fixL
    split
    · simp only [List.length_cons]; omega
    · split <;> (simp only [List.length_cons]; omega)
theorem c_quote (x : List Nat) (t : Tok) (hx : x.length ≤ 40000) (news : List (Addr × Obj)) :
    CbClaim PySem.Challenge.rw_pk0022_01.row.prog w (Mine.hd.heap_39 w.params) p loose mean mg mb 62 news [] True [.str (S x) t] (fun t' => .str (S (dotsL true (fixL x))) t') := by
  w_on
  k_fill
  have hy := fixL_len x
  dsimp only [CbClaim, CbLists, CbRet]
  intros
  rename_i hret
  refine wpAny_call ?_
  k_dflt cell_enter
  k_steps
  all_goals exact hret _ _ _ (by k_asm) (by k_asm)
theorem c_comment (x : Str) (t : Tok) (hx : x.length ≤ 40000) (news : List (Addr × Obj)) :
    CbClaim PySem.Challenge.rw_pk0022_01.row.prog w (Mine.hd.heap_39 w.params) p loose mean mg mb 38 news [] True [.str x t] (fun t' => .str (if (Txt.rstrip x).length = 0 then Str.ofString "#" else Str.ofString "# " ++ Txt.rstrip x) t') := by
  w_on
  k_fill
  dsimp only [CbClaim, CbLists, CbRet]
  intros
  rename_i hret
  refine wpAny_call ?_
  k_dflt cell_enter
  k_steps
  all_goals cb_end hret
end
end Mine
end

/- part W4 -/
section
open PySem PySem.W PyProof.Rows
set_option Elab.async false
set_option maxRecDepth 100000
set_option maxHeartbeats 4000000
namespace Mine
open PySem.Builtin PySem.Builtin.Str

def find4 (x y : Str) (i e : Int) : Int := match occurrences x y (fromIndex x.length i) (min (fromIndex x.length e) x.length) 1 with | k :: _ => (k : Int) | [] => -1
def rfind4 (x y : Str) (i e : Int) : Int := match lastOccurrence x y (fromIndex x.length i) (min (fromIndex x.length e) x.length) with | some k => (k : Int) | none => -1
theorem gives_find4 (x y : Str) (i e : Int) (t u v q : Tok) : Gives («str.find» ⟨[.str x t, .str y u, .int i v, .int e q], []⟩) (.int (find4 x y i e)) := by
  show Gives (match occurrences x y (fromIndex x.length i) (min (fromIndex x.length e) x.length) 1 with | k :: _ => retInt k | [] => (do rule "str.find.not-found"; retInt (-1))) _
  unfold find4
  cases occurrences x y (fromIndex x.length i) (min (fromIndex x.length e) x.length) 1 with
  | nil => exact .rule (.of_eq rfl)
  | cons k _ => exact .of_eq rfl
theorem gives_rfind4 (x y : Str) (i e : Int) (t u v q : Tok) : Gives («str.rfind» ⟨[.str x t, .str y u, .int i v, .int e q], []⟩) (.int (rfind4 x y i e)) := by
  show Gives (match lastOccurrence x y (fromIndex x.length i) (min (fromIndex x.length e) x.length) with | some k => retInt k | none => (do rule "str.rfind.not-found"; retInt (-1))) _
  unfold rfind4
  cases lastOccurrence x y (fromIndex x.length i) (min (fromIndex x.length e) x.length) with
  | none => exact .rule (.of_eq rfl)
  | some k => exact .of_eq rfl
section
variable {prog : Program} {w : World} {A : Around} {E : Value → Shared → Prop} {s : Shared} {x y : Str} {t u v q : Tok} {i e : Int} {Q : Value → Shared → Prop}
theorem call_find4 (hq : Q (.int (find4 x y i e) s.toks) { s with toks := s.toks + 1 }) : wpAny (model prog w) A (call (.builtin "str.find") [.str x t, .str y u, .int i v, .int e q]) Q E s :=
  call_gives F.slot_str_find (typeIs_str _ _ _) F.entry_str_find (F.args_str_find_4 _ _ _ _) (gives_find4 x y i e t u v q) hq
theorem call_rfind4 (hq : Q (.int (rfind4 x y i e) s.toks) { s with toks := s.toks + 1 }) : wpAny (model prog w) A (call (.builtin "str.rfind") [.str x t, .str y u, .int i v, .int e q]) Q E s :=
  call_gives F.slot_str_rfind (typeIs_str _ _ _) F.entry_str_rfind (F.args_str_rfind_4 _ _ _ _) (gives_rfind4 x y i e t u v q) hq
end
local macro_rules | `(tactic| walk_at "call builtin:str.find") => `(tactic| (k_here; (show wpAny _ _ (call (Value.builtin "str.find") [Value.str _ _, Value.str _ _, Value.int _ _, Value.int _ _]) _ _ _); refine call_find4 ?_))
local macro_rules | `(tactic| walk_at "call builtin:str.rfind") => `(tactic| (k_here; (show wpAny _ _ (call (Value.builtin "str.rfind") [Value.str _ _, Value.str _ _, Value.int _ _, Value.int _ _]) _ _ _); refine call_rfind4 ?_))
/-- what _strip_exception_details gives back -/
def stripE0 (x : Str) : Int := if 0 ≤ Txt.find x (Str.ofString "\n") then Txt.find x (Str.ofString "\n") else (x.length : Int)
def stripE (x : Str) : Int := if 0 ≤ find4 x (Str.ofString ":") 0 (stripE0 x) then find4 x (Str.ofString ":") 0 (stripE0 x) else stripE0 x
def stripB (x : Str) : Int := if 0 ≤ rfind4 x (Str.ofString ".") 0 (stripE x) then rfind4 x (Str.ofString ".") 0 (stripE x) + 1 else 0
def stripV (x : Str) : Str := Txt.slice x (some (stripB x)) (some (stripE x))
theorem stripE0_of {x : Str} {r : Int} (h : 0 ≤ Txt.find x (Str.ofString "\n") ∧ r = Txt.find x (Str.ofString "\n") ∨ ¬ 0 ≤ Txt.find x (Str.ofString "\n") ∧ r = (x.length : Int)) : stripE0 x = r := by
  unfold stripE0
  rcases h with ⟨h1, h2⟩ | ⟨h1, h2⟩
  · rw [if_pos h1, h2]
  · rw [if_neg h1, h2]
section
variable {w : World} {p : Program} {loose : List Str} {mean : ExcName → Option Value} {mg mb : Str → Option Value}
theorem c_strip (x : Str) (t : Tok) (hx : x.length ≤ 40000) (news : List (Addr × Obj)) :
    CbClaim PySem.Challenge.rw_pk0022_01.row.prog w (Mine.hd.heap_39 w.params) p loose mean mg mb 45 news [] True [.str x t] (fun t' => .str (stripV x) t') := by
  w_on
  k_fill
  dsimp only [CbClaim, CbLists, CbRet]
  intros
  rename_i hret
  refine wpAny_call ?_
  k_dflt cell_enter
  k_steps
  all_goals (
    (rename (_ ∨ _) => hr)
    have e0 := stripE0_of hr
    subst e0
    refine' cb_retS hret ?e1 ?e2 ?e3
    (case e2 => k_asm)
    (case e3 => (refine' cb_drop ?cbN ?cbS; (case cbN => assumption); (case cbS => exact fun p hp => List.mem_cons_of_mem _ hp)))
    (case e1 => (simp only [stripV, stripB, stripE]; simp only [*, if_true, if_false]))
  )
end
end Mine
end

/- part W5 -/
section
open PySem PySem.W PyProof.Rows
set_option Elab.async false
set_option maxRecDepth 100000
set_option maxHeartbeats 4000000
namespace Mine
def bareL : Int → List Nat
  | 1 => [46]
  | 2 => [46, 46, 98]
  | 3 => [97, 46, 32, 11]
  | 4 => [46, 97, 58, 46, 98, 58, 32, 99]
  | 5 => [32, 46, 98]
  | 6 => [58, 11, 46]
  | 7 => [32, 9]
  | _ => []
def coreL : Int → List Nat
  | 1 => [46]
  | 2 => [46, 46, 98]
  | 3 => [97, 46]
  | 4 => [46, 97, 58, 46, 98, 58, 32, 99]
  | 5 => [32, 46, 98]
  | 6 => [58, 11, 46]
  | _ => []
abbrev pairObj (u v : Value) : Obj := { cls := .type "tuple", data := .seq [u, v].toArray 0 }
def KindRet (h₀ : Heap) (L : Addr) (m : Str → Option Value) (s : Shared) (news : List (Addr × Obj)) (n : Int) (Q : Value → Shared → Prop) : Prop :=
  ∀ (a : Addr) (t1 t2 : Tok) (h' : Heap) (tk' : Nat), Fr h₀ L h' m → News h₀ L h' ((a, pairObj (.str (S (bareL n)) t1) (.str (S (coreL n)) t2)) :: news) → (∀ p ∈ news, p.1 < a) → Q (.ref a) { s with heap := h', toks := tk' }
theorem kind_ret {h₀ h' : Heap} {L a : Addr} {m : Str → Option Value} {s : Shared} {news news' : List (Addr × Obj)} {n : Int} {Q : Value → Shared → Prop} {x y : Str} {t1 t2 : Tok} {tk' : Nat} (hret : KindRet h₀ L m s news n Q) (F : Fr h₀ L h' m)
    (N : News h₀ L h' ((a, pairObj (.str x t1) (.str y t2)) :: news')) (hs : ∀ p ∈ news, p ∈ news') (lt : ∀ p ∈ news, p.1 < a) (ex : x = S (bareL n)) (ey : y = S (coreL n)) : Q (.ref a) { s with heap := h', toks := tk' } := by
  subst ex ey
  refine hret a t1 t2 h' tk' F (fun p hp => N p ?_) lt
  rcases List.mem_cons.mp hp with rfl | hp
  · exact .head _
  · exact .tail _ (hs p hp)
section
variable {w : World} {p : Program} {loose : List Str} {mean : ExcName → Option Value} {mg mb : Str → Option Value}
theorem c_kind (n : Int) (t : Tok) (h0 : 0 ≤ n) (h8 : n < 8) (news : List (Addr × Obj)) : ∀ (dp un : Nat) (gd : Option (List Code)) (cn : Str) (cs : Scope) (a : Addr) (ccd : Value) (cl : List (Str × Addr)) (outer : List Env) (A₀ : Around) (base h₀ : Heap) (L : Addr) (m : Str → Option Value) (s : Shared) (Q E : Value → Shared → Prop),
    Below A₀ base outer h₀ → Fr h₀ L s.heap m → (Mine.hd.heap_39 w.params).In h₀ → News h₀ L s.heap news → Top p loose mean mg mb h₀ → cs.kind = .function → dp + 1 < recursionLimit → un + 8 < cLine →
      KindRet h₀ L m s news n Q →
      wpAny (model PySem.Challenge.rw_pk0022_01.row.prog w) (ktrTop dp un gd cn cs L a ccd cl outer) (call (.ref 76) [.int n t]) Q E s := by
  w_on
  k_fill
  intros
  rename_i hret
  have hn : n = 0 ∨ n = 1 ∨ n = 2 ∨ n = 3 ∨ n = 4 ∨ n = 5 ∨ n = 6 ∨ n = 7 := by omega
  rcases hn with e | e | e | e | e | e | e | e
  all_goals (
    subst e
    refine wpAny_call ?_
    k_dflt cell_enter
    k_steps
    (rename (_ < _ ∧ _ < _ ∧ AllLt _ _) => hlt)
    refine' kind_ret hret ?f ?n ?s (ktn_ltOf hlt.2.2) ?x ?y
    (case f => k_asm)
    (case n => assumption)
    (case s => exact fun p hp => List.mem_cons_of_mem _ (List.mem_cons_of_mem _ hp))
    (case x => decide +kernel)
    (case y => decide +kernel))
end
end Mine
end

/- part W6 -/
section
open PySem PySem.W PyProof.Rows
set_option Elab.async false
set_option maxRecDepth 100000
set_option maxHeartbeats 4000000
namespace Mine
open PySem.Builtin PySem.Builtin.Str

/-- the ledger bears these pairs of ints -/
inductive PairsIn (news : List (Addr × Obj)) : List Value → List (Int × Int) → Prop
  | nil : PairsIn news [] []
  | cons {a : Addr} {d k : Int} {t1 t2 : Tok} {vs : List Value} {c : List (Int × Int)} : (a, pairObj (.int d t1) (.int k t2)) ∈ news → PairsIn news vs c → PairsIn news (.ref a :: vs) ((d, k) :: c)
theorem PairsIn.mono {news news' : List (Addr × Obj)} (hs : ∀ p ∈ news, p ∈ news') : ∀ {vs : List Value} {c : List (Int × Int)}, PairsIn news vs c → PairsIn news' vs c
  | _, _, .nil => .nil
  | _, _, .cons h r => .cons (hs _ h) (PairsIn.mono hs r)
theorem PairsIn.length {news : List (Addr × Obj)} : ∀ {vs : List Value} {c : List (Int × Int)}, PairsIn news vs c → vs.length = c.length
  | _, _, .nil => rfl
  | _, _, .cons _ r => by rw [List.length_cons, List.length_cons, PairsIn.length r]
theorem PairsIn.get {news : List (Addr × Obj)} : ∀ {vs : List Value} {c : List (Int × Int)}, PairsIn news vs c → ∀ {k : Nat}, k < c.length → ∃ a t1 t2, vs[k]? = some (.ref a) ∧ (a, pairObj (.int (c.getD k (0, 0)).1 t1) (.int (c.getD k (0, 0)).2 t2)) ∈ news
  | _, _, .nil, k, hk => absurd hk (Nat.not_lt_zero _)
  | _, _, .cons (a := a) (t1 := t1) (t2 := t2) h r, 0, _ => ⟨a, t1, t2, rfl, h⟩
  | _, _, .cons h r, k + 1, hk => by
    obtain ⟨a, t1, t2, e, hm⟩ := PairsIn.get r (k := k) (by simpa using hk)
    exact ⟨a, t1, t2, by simpa using e, by simpa using hm⟩
theorem PairsIn.append {news : List (Addr × Obj)} : ∀ {vs ws : List Value} {c e : List (Int × Int)}, PairsIn news vs c → PairsIn news ws e → PairsIn news (vs ++ ws) (c ++ e)
  | _, _, _, _, .nil, k => k
  | _, _, _, _, .cons h r, k => .cons h (PairsIn.append r k)

def dAt (c : List (Int × Int)) (j : Int) : Int := (c.getD j.toNat (0, 0)).1
def kAt (c : List (Int × Int)) (j : Int) : Int := (c.getD j.toNat (0, 0)).2
section
variable {prog : Program} {w : World} {A : Around} {E : Value → Shared → Prop} {s : Shared} {h₀ : Heap} {L l : Addr}
theorem chain_item {value slice : PySem.Expr} {news news' : List (Addr × Obj)} {vs : List Value} {c : List (Int × Int)} {n : Nat} {k : Int} {u : Tok} {Q : Value → Shared → Prop} (hm : (l, listOf vs.toArray n) ∈ news) (hp : PairsIn news vs c) (N : News h₀ L s.heap news') (hs : ∀ p ∈ news, p ∈ news')
    (h0 : 0 ≤ k) (h1 : k < (c.length : Int)) (hl : c.length ≤ 64) (h : ∀ a t1 t2, (a, pairObj (.int (dAt c k) t1) (.int (kAt c k) t2)) ∈ news → Q (.ref a) s)
    (hsub : subscripted slice false (.ref l) (.int k u) = operate [.ref l, .int k u] (getItem (.ref l) (.int k u)) := by with_unfolding_all rfl) :
    wpAny (model prog w) A (subscriptTail value slice (.ref l) (.int k u)) Q E s := by
  have hls : s.heap.IsList l vs.toArray := ⟨_, (N _ (hs _ hm)).1, rfl, n, rfl⟩
  obtain ⟨a, t1, t2, e, hmem⟩ := hp.get (k := k.toNat) (by omega)
  exact tail_any hls.typeIs slot_list_getitem.lookup (wpAny_getItem_list hls h0 (by omega) (by simpa using e) (h a t1 t2 hmem)) hsub
theorem pair_fst {value slice : PySem.Expr} {news news' : List (Addr × Obj)} {u v : Value} {q : Tok} {Q : Value → Shared → Prop} (hm : (l, pairObj u v) ∈ news) (N : News h₀ L s.heap news') (hs : ∀ p ∈ news, p ∈ news') (h : Q u s)
    (hsub : subscripted slice false (.ref l) (.int 0 q) = operate [.ref l, .int 0 q] (getItem (.ref l) (.int 0 q)) := by with_unfolding_all rfl) :
    wpAny (model prog w) A (subscriptTail value slice (.ref l) (.int 0 q)) Q E s := by
  have ht : IsTup s.heap l [u, v].toArray := ⟨_, (N _ (hs _ hm)).1, rfl, 0, rfl⟩
  exact item_tupleT ht (by decide) (by decide) rfl rfl h hsub
theorem pair_snd {value slice : PySem.Expr} {news news' : List (Addr × Obj)} {u v : Value} {q : Tok} {Q : Value → Shared → Prop} (hm : (l, pairObj u v) ∈ news) (N : News h₀ L s.heap news') (hs : ∀ p ∈ news, p ∈ news') (h : Q v s)
    (hsub : subscripted slice false (.ref l) (.int 1 q) = operate [.ref l, .int 1 q] (getItem (.ref l) (.int 1 q)) := by with_unfolding_all rfl) :
    wpAny (model prog w) A (subscriptTail value slice (.ref l) (.int 1 q)) Q E s := by
  have ht : IsTup s.heap l [u, v].toArray := ⟨_, (N _ (hs _ hm)).1, rfl, 0, rfl⟩
  exact item_tupleT ht (by decide) (by decide) rfl rfl h hsub
end
end Mine
end

/- part W7 -/
section
open PySem PySem.W PyProof.Rows
set_option Elab.async false
set_option maxRecDepth 100000
set_option maxHeartbeats 4000000
namespace Mine
open PySem.Builtin PySem.Builtin.Str
local macro_rules | `(tactic| walk_at "subscriptTail") => `(tactic| k_extra "my item")
local macro_rules | `(tactic| walk_at "subscriptTail Name Name ref int") => `(tactic| k_extra "my item")
local macro_rules | `(tactic| walk_at "call ref") => `(tactic| k_extra "my call")
local macro_rules | `(tactic| walk_at "exec Assign cons ListComp") => `(tactic| (k_here; k_dflt (refine LCt.Assign_ListComp_T (F₀ := by k_asm) (by rfl) (by with_unfolding_all rfl) (by with_unfolding_all rfl) (by decide) (by rfl) (by decide) (by rfl) (by rfl) (by rfl) ?_)))
local macro_rules | `(tactic| walk_at "CompSrcT") => `(tactic| k_extra "my src")
local macro_rules | `(tactic| walk_at "compareOp Eq ref ref") => `(tactic| k_extra "my eq")
local macro_rules | `(tactic| walk_at "CompEnd") => `(tactic| k_extra "my end")
local macro_rules | `(tactic| walk_at "KPfDone") => `(tactic| k_extra "my done")
local macro_rules | `(tactic| walk_at "call builtin:len") => `(tactic| k_extra "my len")
def gAns (c : List (Int × Int)) (l : List Int) (j : Int) : List Int := if dAt c j = 1 then l ++ [j] else l
def gSnd (c : List (Int × Int)) (l : List Int) (j : Int) : List Int := if dAt c j = 2 then l else l ++ [j]
theorem gAns_grows (c : List (Int × Int)) : KPfGrows (gAns c) := by
  intro l k; unfold gAns; split <;> simp
theorem gSnd_grows (c : List (Int × Int)) : KPfGrows (gSnd c) := by
  intro l k; unfold gSnd; split <;> simp
/-- the answers behind row k, and where the first one lies -/
def ansI (c : List (Int × Int)) (k : Int) : List Int := (rangeKs (k + 1) ((c.length : Int) - (k + 1)).toNat).foldl (gAns c) []
def firstI (c : List (Int × Int)) (k : Int) : Int := (ansI c k).foldl min (c.length : Int)
theorem gAns_mem (c : List (Int × Int)) : ∀ (js l : List Int) (x : Int), x ∈ js.foldl (gAns c) l → x ∈ l ∨ (x ∈ js ∧ dAt c x = 1)
  | [], l, x, h => .inl h
  | j :: js, l, x, h => by
    rcases gAns_mem c js (gAns c l j) x h with h | h
    · unfold gAns at h
      split at h
      · rename_i hj
        rcases List.mem_append.mp h with h | h
        · exact .inl h
        · rw [List.mem_singleton.mp h]; exact .inr ⟨List.mem_cons_self, hj⟩
      · exact .inl h
    · exact .inr ⟨List.mem_cons_of_mem _ h.1, h.2⟩
theorem ansI_mem {c : List (Int × Int)} {k x : Int} (h : x ∈ ansI c k) : k + 1 ≤ x ∧ x < (c.length : Int) ∧ dAt c x = 1 := by
  rcases gAns_mem c _ _ x h with h | h
  · cases h
  · have := mem_rangeKs h.1
    exact ⟨this.1, by omega, h.2⟩
theorem foldl_min_le : ∀ (l : List Int) (a : Int), l.foldl min a ≤ a ∧ ∀ x ∈ l, l.foldl min a ≤ x
  | [], a => ⟨Int.le_refl a, fun _ h => nomatch h⟩
  | y :: l, a => by
    obtain ⟨h1, h2⟩ := foldl_min_le l (min a y)
    refine ⟨by rw [List.foldl_cons]; omega, fun x hx => ?_⟩
    rw [List.foldl_cons]
    rcases List.mem_cons.mp hx with rfl | hx
    · omega
    · exact h2 x hx
theorem foldl_min_mem : ∀ (l : List Int) (a : Int), l.foldl min a = a ∨ l.foldl min a ∈ l
  | [], a => .inl rfl
  | y :: l, a => by
    rw [List.foldl_cons]
    rcases foldl_min_mem l (min a y) with h | h
    · rw [h]
      by_cases hy : a ≤ y
      · exact .inl (by omega)
      · refine .inr ?_
        rw [show min a y = y by omega]; exact List.mem_cons_self
    · exact .inr (List.mem_cons_of_mem _ h)
theorem firstI_is {c : List (Int × Int)} {k M : Int} (h1 : M ∈ (rangeKs (k + 1) ((c.length : Int) - (k + 1)).toNat).foldl (gAns c) [] ++ [(c.length : Int)]) (h2 : ∀ a, a ∈ (rangeKs (k + 1) ((c.length : Int) - (k + 1)).toNat).foldl (gAns c) [] ++ [(c.length : Int)] → M ≤ a) : M = firstI c k := by
  obtain ⟨g1, g2⟩ := foldl_min_le (ansI c k) (c.length : Int)
  have a1 : M ≤ firstI c k := by
    rcases foldl_min_mem (ansI c k) (c.length : Int) with h | h
    · exact h2 _ (List.mem_append_right _ (by rw [show firstI c k = (c.length : Int) from h]; exact List.mem_singleton.mpr rfl))
    · exact h2 _ (List.mem_append_left _ h)
  have a2 : firstI c k ≤ M := by
    rcases List.mem_append.mp h1 with h | h
    · exact g2 M h
    · rw [List.mem_singleton.mp h]; exact g1
  omega
theorem firstI_bounds {c : List (Int × Int)} {k : Int} (hk : k < (c.length : Int)) : k + 1 ≤ firstI c k ∧ firstI c k ≤ (c.length : Int) := by
  refine ⟨?_, (foldl_min_le (ansI c k) (c.length : Int)).1⟩
  rcases foldl_min_mem (ansI c k) (c.length : Int) with h | h
  · rw [show firstI c k = (c.length : Int) from h]; omega
  · exact (ansI_mem h).1
theorem bare_len (n : Int) : (S (bareL n)).length ≤ 8 := by
  unfold bareL; split <;> decide
theorem core_len (n : Int) : (S (coreL n)).length ≤ 8 := by
  unfold coreL; split <;> decide
def rowDots (c : List (Int × Int)) (k : Int) : Str := if (Txt.slice (S (bareL (kAt c k))) none (some 1) == Str.ofString ".") = true then Txt.mul (Str.ofString ".") ((List.foldl (gSnd c) [] (rangeKs k (firstI c k - k).toNat)).length : Int) else Str.ofString ""
def rowV (c : List (Int × Int)) (k : Int) : Str :=
  if decide (List.foldl (gAns c) [] (rangeKs (k + 1) ((c.length : Int) - (k + 1)).toNat) = []) = true then rowDots c k ++ S (bareL (kAt c k))
  else if (S (coreL (kAt c k)) == Str.ofString "") = true then Txt.mul (Str.ofString "# ") (((List.foldl (gAns c) [] (rangeKs (k + 1) ((c.length : Int) - (k + 1)).toNat)).length : Int) - 1) ++ Str.ofString "#"
  else Txt.mul (Str.ofString "# ") ((List.foldl (gAns c) [] (rangeKs (k + 1) ((c.length : Int) - (k + 1)).toNat)).length : Int) ++ rowDots c k ++ S (coreL (kAt c k))
theorem chain_len {prog : Program} {w : World} {A : Around} {E : Value → Shared → Prop} {s : Shared} {h₀ : Heap} {L l : Addr} {news news' : List (Addr × Obj)} {vs : List Value} {c : List (Int × Int)} {n : Nat} {Q : Value → Shared → Prop} (hm : (l, listOf vs.toArray n) ∈ news) (hp : PairsIn news vs c) (N : News h₀ L s.heap news') (hs : ∀ p ∈ news, p ∈ news')
    (hl : c.length ≤ 64) (h : Q (.int (c.length : Int) (s.toks + 1)) { s with toks := s.toks + 1 + 1 }) : wpAny (model prog w) A (call (.builtin "len") [.ref l]) Q E s := by
  have hls : s.heap.IsList l vs.toArray := ⟨_, (N _ (hs _ hm)).1, rfl, n, rfl⟩
  have e : vs.toArray.size = c.length := by rw [List.size_toArray, hp.length]
  exact len_list hls (by rw [e]; omega) (by rw [e]; exact h)
section
variable {w : World} {p : Program} {loose : List Str} {mean : ExcName → Option Value} {mg mb : Str → Option Value}
theorem c_row (lc : Addr) (vs : List Value) (nn : Nat) (c : List (Int × Int)) (k : Int) (t : Tok) (hk0 : 0 ≤ k) (hk1 : k < (c.length : Int)) (hl : c.length ≤ 64) (hkind : ∀ j, 0 ≤ j → j < (c.length : Int) → 0 ≤ kAt c j ∧ kAt c j < 8)
    (news : List (Addr × Obj)) (hm : (lc, listOf vs.toArray nn) ∈ news) (hp : PairsIn news vs c) : ∀ (dp un : Nat) (gd : Option (List Code)) (cn : Str) (cs : Scope) (a : Addr) (ccd : Value) (cl : List (Str × Addr)) (outer : List Env) (A₀ : Around) (base h₀ : Heap) (L : Addr) (m : Str → Option Value) (s : Shared) (Q E : Value → Shared → Prop),
    Below A₀ base outer h₀ → Fr h₀ L s.heap m → (Mine.hd.heap_39 w.params).In h₀ → News h₀ L s.heap news → Top p loose mean mg mb h₀ → cs.kind = .function → dp + 4 < recursionLimit → un + 200 < cLine → CbRet h₀ L m news s Q (fun t' => .str (rowV c k) t') →
      wpAny (model PySem.Challenge.rw_pk0022_01.row.prog w) (ktrTop dp un gd cn cs L a ccd cl outer) (call (.ref 81) [.ref lc, .int k t]) Q E s := by
  w_on
  k_fill
  intro dp un gd cn cs a ccd cl outer A₀ base h₀ L m s Q E hB hF hX hN hT hcs hdp hun hret
  k_with_none
  have hb9 := bare_len (kAt c k)
  have hc9 := core_len (kAt c k)
  k_with "my item" => (k_here; (refine chain_item hm hp (by k_asm) ?hs ?h0 ?h1 hl ?_ (by with_unfolding_all rfl)); (case hs => (intro p9 hp9; repeat (first | exact hp9 | apply List.mem_cons_of_mem))); (case h0 => omega); (case h1 => omega); intro a' t1' t2' hm')
  k_with "my item" => (k_here; (rename (_ ∈ news) => hm9); (refine pair_fst hm9 (by k_asm) ?hs ?_ (by with_unfolding_all rfl)); (case hs => (intro p9 hp9; repeat (first | exact hp9 | apply List.mem_cons_of_mem))))
  k_with "my item" => (k_here; (rename (_ ∈ news) => hm9); (refine pair_snd hm9 (by k_asm) ?hs ?_ (by with_unfolding_all rfl)); (case hs => (intro p9 hp9; repeat (first | exact hp9 | apply List.mem_cons_of_mem))))
  k_with "my call" => (k_here; k_dflt (refine' c_kind _ _ ?a0 ?a8 _ _ _ _ _ _ _ _ _ _ _ _ _ _ _ _ _ _ ?k1 ?k2 ?k3 ?k4 ?k5 rfl ?d ?u ?_); (case a0 => exact (hkind k hk0 hk1).1); (case a8 => exact (hkind k hk0 hk1).2); (case k1 => k_asm); (case k2 => k_asm); (case k3 => k_asm); (case k4 => k_asm); (case k5 => k_asm); (case d => ktr_room); (case u => ktr_units); intro b' t1' t2' h' tk' F' N' l1; (try k_lt l1); (try k_sweep))
  k_with "my len" => (k_here; (refine chain_len hm hp (by k_asm) ?hs hl ?_); (case hs => (intro p9 hp9; repeat (first | exact hp9 | apply List.mem_cons_of_mem))))
  k_with "my src" => (k_here; k_dflt (refine LCt.CompSrcT.range (by rfl) (by k_asm) (by k_asm) (by assumption) (small_one (by omega) (by omega) (by omega) (by omega)) (rangeSize_nat _ _) (by rw [PySem.sizeLine_eq]; omega) ?_); intro g'; (refine' kci_range (gAns c) (fun k' t' I' oI' C' oC' D' m' ys' l' h' tk' E' hlo' hhi' hI' hC' hx' F' N' off' ne' => ?_) ?_ (gAns_grows c)); (all_goals (try ((show KPfMark → _); intro hMark'))))
  k_with "my src" => (k_here; (rename (_ ∈ _ ++ [_]) => hM1); (rename (∀ a, a ∈ _ ++ [_] → _ ≤ a) => hM2); have hM := firstI_is hM1 hM2; subst hM; have hMb := firstI_bounds hk1; k_dflt (refine LCt.CompSrcT.range (by rfl) (by k_asm) (by k_asm) (by assumption) (small_one (by omega) (by omega) (by omega) (by omega)) (rangeSize_nat _ _) (by rw [PySem.sizeLine_eq]; omega) ?_); intro g'; (refine' kci_range (gSnd c) (fun k' t' I' oI' C' oC' D' m' ys' l' h' tk' E' hlo' hhi' hI' hC' hx' F' N' off' ne' => ?_) ?_ (gSnd_grows c)); (all_goals (try ((show KPfMark → _); intro hMark'))))
  k_with "my eq" => (k_here; k_dflt (refine ke_eq_ints (by is_list) (by is_list) (by l_ints) (by l_ints) ?u ?_); (case u => ktr_units))
  k_with "my end" => (refine LCg.CompEnd.intro (by k_asm) (by k_asm) _ (fun _ hp9 => hp9) (by assumption) trivial ?_; first | exact kci_el (by unfold gAns; exact if_pos (by assumption)) rfl rfl | exact kci_no (by unfold gAns; exact if_neg (by assumption)) rfl | exact kci_el (by unfold gSnd; exact if_neg (by assumption)) rfl rfl | exact kci_no (by unfold gSnd; exact if_pos (by assumption)) rfl)
  refine wpAny_call ?_
  k_dflt (refine' code_defC ?k1 ?k2 ?k3 ?k4 ?k5 ?kA ?kF ?kK ?k6 ?k7 ?k8 ?k9 ?kB ?kD ?_ ?c2 ?c3 ?c4; (case kA => exact rfl); (case kF => exact rfl); (case kK => assumption); (case k1 => k_asm); (case k2 => k_asm); (case k3 => k_asm); (case k4 => k_asm); (case k5 => k_asm); (case k6 => k_is); (case k7 => k_is); (case k8 => ktr_room); (case k9 => exact BindsTo.of_eq rfl); (case kB => exact rfl); (case kD => decide +kernel); (case c2 => exact rfl); (case c3 => exact rfl); (case c4 => exact rfl); k_whole; intro g' L' h' tk' cells' FG' F' N' Y' B' X' T' l1; k_cells Y'; (try simp only [List.cons_append, List.nil_append] at N'); (try dsimp only); (try k_lift B'); (try k_fold))
  k_steps
  all_goals (
    refine' cb_retS hret ?e1 ?e2 ?e3
    (case e2 => k_asm)
    (case e3 => (refine' cb_drop ?cbN ?cbS; (case cbN => assumption); (case cbS => (intro p9 hp9; repeat (first | exact hp9 | apply List.mem_cons_of_mem)))))
    (case e1 => (simp only [rowV, rowDots]; simp only [*, if_true, if_false, Bool.false_eq_true])))
end
end Mine
end

/- part L0 -/
section
open PySem PySem.W PyProof.Rows
set_option Elab.async false
set_option maxRecDepth 100000
set_option maxHeartbeats 8000000
namespace Mine
noncomputable section
def fnAt (P : Params) (a : Addr) : FuncData := match (Mine.hd.heap_39 P).lookup a with
  | some o => (match o.data with
    | .func f => f
    | _ => default)
  | none => default
def loopOf : FuncBody → List Stmt
  | .stmts [_, .For _ _ b _ _, _] => b
  | _ => []
def lawStmt (P : Params) (i : Nat) : Stmt := (loopOf (fnAt P 86).body).getD i (.Pass default)
def lawScopeS (P : Params) : {x : Scope // x = (fnAt P 86).scope} := by
  refine' ⟨_, ?h⟩
  case h => conv => (rhs; whnf)
def lawScope (P : Params) : Scope := (lawScopeS P).1
abbrev lawEnv (P : Params) (L a : Addr) (ccd : Value) : Env := envX (Str.ofString "law") (lawScope P) L a ccd [(Str.ofString "chain", L + 1)]
abbrev lawA (P : Params) (dp un : Nat) (gd : Option (List Code)) (L a : Addr) (ccd : Value) (outer : List Env) : Around := ktrTop dp un gd (Str.ofString "law") (lawScope P) L a ccd [(Str.ofString "chain", L + 1)] outer

/-- the ground that each statement of the turn stands on -/
structure Gr (w : World) (p : Program) (loose : List Str) (mean : ExcName → Option Value) (mg mb : Str → Option Value) (A₀ : Around) (base : Heap) (outer : List Env) (h₀ : Heap) (dp un : Nat) : Prop where
  B : Below A₀ base outer h₀
  X : (Mine.hd.heap_39 w.params).In h₀
  T : Top p loose mean mg mb h₀
  d : dp + 6 < recursionLimit
  u : un + 300 < cLine
theorem sub_news {h₀ h : Heap} {L : Addr} {news news' : List (Addr × Obj)} (N : News h₀ L h news') (hs : ∀ p ∈ news, p ∈ news') : News h₀ L h news := fun p hp => N p (hs p hp)
theorem list_len {prog : Program} {w : World} {A : Around} {E : Value → Shared → Prop} {s : Shared} {h₀ : Heap} {L l : Addr} {news : List (Addr × Obj)} {vs : List Value} {n : Nat} {Q : Value → Shared → Prop} (N : News h₀ L s.heap news) (hm : (l, listOf vs.toArray n) ∈ news)
    (hl : vs.length ≤ 1000) (h : Q (.int (vs.length : Int) (s.toks + 1)) { s with toks := s.toks + 1 + 1 }) : wpAny (model prog w) A (call (.builtin "len") [.ref l]) Q E s := by
  have hls : s.heap.IsList l vs.toArray := ⟨_, (N _ hm).1, rfl, n, rfl⟩
  exact len_list hls (by rw [List.size_toArray]; omega) (by rw [List.size_toArray]; exact h)
end
end Mine
end

/- part L2 -/
section
open PySem PySem.W PyProof.Rows
set_option Elab.async false
set_option maxRecDepth 100000
set_option maxHeartbeats 8000000
namespace Mine
local macro_rules | `(tactic| walk_at "eval Name") => `(tactic| (k_here; k_dflt (refine' nameX_B ?k1 ?k2 ?k3 ?k4 ?k5 ?k6 ?_ ?k7 ?k8 ?k9); (case k7 => rfl); (case k8 => rfl); (case k9 => decide); (case k1 => k_asm); (case k2 => k_asm); (case k3 => k_asm); (case k4 => k_is); (case k5 => boot_by_name); (case k6 => decide)))
local macro_rules | `(tactic| walk_at "eval Name") => `(tactic| (k_here; k_dflt (refine' nameX_K ?k1 ?k2 ?k3 ?k4 ?_ ?k7 ?k8 ?k9); (case k7 => rfl); (case k8 => rfl); (case k9 => decide); (case k1 => k_asm); (case k2 => k_asm); (case k3 => k_asm); (case k4 => k_is)))
local macro_rules | `(tactic| walk_at "eval Name") => `(tactic| (k_here; k_dflt (refine' nameX_C ?k1 ?k2 ?k3 ?k4 ?_ ?k7 ?k8 ?k9); (case k7 => rfl); (case k8 => rfl); (case k9 => decide); (case k1 => k_asm); (case k2 => rfl); (case k3 => exact List.Mem.head _); (case k4 => assumption)))
local macro_rules | `(tactic| walk_at "eval Name") => `(tactic| (k_here; k_dflt (refine' nameX_L ?k1 ?k2 ?_ ?k3 ?k4 ?k5); (case k3 => rfl); (case k4 => rfl); (case k5 => decide); (case k1 => k_asm); (case k2 => assumption)))
local macro_rules | `(tactic| walk_at "storeName") => `(tactic| k_extra "my store")
local macro_rules | `(tactic| walk_at "call builtin:len") => `(tactic| (k_here; (refine' list_len ?k1 ?k2 ?k3 ?_); (case k1 => k_asm); (case k2 => k_mem); (case k3 => omega)))
theorem store_cell {M : Model} {A : Around} {E : Value → Shared → Prop} {s : Shared} {h₀ : Heap} {L a : Addr} {m : Str → Option Value} {P : Params} {ccd v : Value} {Q : Unit → Shared → Prop} {led tgt : List (Addr × Obj)} {oc : Obj} {v₀ : Option Value} (F : Fr h₀ L s.heap m) (N : News h₀ L s.heap led)
    (hm : (L + 1, oc) ∈ led) (hd : oc.data = .cell v₀) (ht : ∀ p ∈ tgt, p ∈ led ∧ p.1 ≠ L + 1)
    (h : ∀ h' o', Fr h₀ L h' m → News h₀ L h' ((L + 1, o') :: tgt) → o'.data = .cell (some v) → Q () { s with heap := h' }) : wpAny M A (storeName (lawEnv P L a ccd) (Str.ofString "chain") v) Q E s := by
  have hmem := N _ hm
  refine wpAny_storeName_cell (c := L + 1) rfl rfl rfl ⟨oc, hmem.1, hd⟩ fun h' hv hs => ?_
  obtain ⟨o', ho', hd'⟩ := hv
  refine h h' o' ⟨F.ns.sameBut hs (Ne.symm hmem.2.1), fun b ob e => (hs.2 b (fun q => ?_)).trans (F.keep b ob e), F.above⟩ (fun p hp => ?_) hd'
  · rw [q] at e
    rw [hmem.2.2] at e; cases e
  · rcases List.mem_cons.mp hp with rfl | hp
    · exact ⟨ho', hmem.2⟩
    · obtain ⟨h1, h2⟩ := ht p hp
      exact ⟨(hs.2 _ h2).trans (N p h1).1, (N p h1).2⟩
section
variable {w : World} {p : Program} {loose : List Str} {mean : ExcName → Option Value} {mg mb : Str → Option Value} {A₀ : Around} {base h₀ : Heap} {outer : List Env} {dp un : Nat} {gd : Option (List Code)} {L a : Addr} {ccd : Value} {m : Str → Option Value} {news : List (Addr × Obj)} {s : Shared} {Q : Flow → Shared → Prop} {E : Value → Shared → Prop}
theorem st0 (G : Gr w p loose mean mg mb A₀ base outer h₀ dp un) (F : Fr h₀ L s.heap m) (N : News h₀ L s.heap news) {x : Int} {t : Tok} (hx : m (Str.ofString "x") = some (.int x t))
    (ret : ∀ h' t' tk', Fr h₀ L h' (fun y => if y = Str.ofString "deed" then some (.int (Int.fmod x 3) t') else m y) → News h₀ L h' news → Q .next { s with heap := h', toks := tk' }) :
    wpAny (model PySem.Challenge.rw_pk0022_01.row.prog w) (lawA w.params dp un gd L a ccd outer) (exec (lawStmt w.params 0) (lawEnv w.params L a ccd)) Q E s := by
  w_on
  obtain ⟨hB, hX, hT, hd, hu⟩ := G
  revert hX
  k_fill
  intro hX
  conv in (lawStmt _ _) => whnf
  k_steps
  all_goals exact ret _ _ _ (by k_asm) (by k_asm)
theorem st1 (G : Gr w p loose mean mg mb A₀ base outer h₀ dp un) (F : Fr h₀ L s.heap m) (N : News h₀ L s.heap news) {x : Int} {t : Tok} (hx : m (Str.ofString "x") = some (.int x t))
    (ret : ∀ h' t' tk', Fr h₀ L h' (fun y => if y = Str.ofString "kind" then some (.int (Int.fmod (Int.fdiv x 3) 8) t') else m y) → News h₀ L h' news → Q .next { s with heap := h', toks := tk' }) :
    wpAny (model PySem.Challenge.rw_pk0022_01.row.prog w) (lawA w.params dp un gd L a ccd outer) (exec (lawStmt w.params 1) (lawEnv w.params L a ccd)) Q E s := by
  w_on
  obtain ⟨hB, hX, hT, hd, hu⟩ := G
  revert hX
  k_fill
  intro hX
  conv in (lawStmt _ _) => whnf
  k_steps
  all_goals exact ret _ _ _ (by k_asm) (by k_asm)
theorem st2 {lm : Addr} {mvs : List Value} {nm : Nat} {oc : Obj} {rest : List (Addr × Obj)} (G : Gr w p loose mean mg mb A₀ base outer h₀ dp un) (F : Fr h₀ L s.heap m) (N : News h₀ L s.heap ((L + 1, oc) :: (lm, listOf mvs.toArray nm) :: rest)) {x : Int} {t : Tok} (hx : m (Str.ofString "x") = some (.int x t))
    (hm : m (Str.ofString "mails") = some (.ref lm)) (hl : mvs.length ≤ 7)
    (ret : ∀ h' t' tk', Fr h₀ L h' (fun y => if y = Str.ofString "back" then some (.int (Int.fmod (Int.fdiv x 72) ((mvs.length : Int) + 1)) t') else m y) → News h₀ L h' ((L + 1, oc) :: (lm, listOf mvs.toArray nm) :: rest) → Q .next { s with heap := h', toks := tk' }) :
    wpAny (model PySem.Challenge.rw_pk0022_01.row.prog w) (lawA w.params dp un gd L a ccd outer) (exec (lawStmt w.params 2) (lawEnv w.params L a ccd)) Q E s := by
  w_on
  obtain ⟨hB, hX, hT, hd, hu⟩ := G
  revert hX
  k_fill
  intro hX
  conv in (lawStmt _ _) => whnf
  k_steps
  all_goals exact ret _ _ _ (by k_asm) (by k_asm)
theorem st3 {lm : Addr} {mvs : List Value} {nm : Nat} {oc : Obj} {v₀ : Option Value} {rest : List (Addr × Obj)} (G : Gr w p loose mean mg mb A₀ base outer h₀ dp un) (F : Fr h₀ L s.heap m) (N : News h₀ L s.heap ((L + 1, oc) :: (lm, listOf mvs.toArray nm) :: rest))
    (ho : oc.data = .cell v₀) (hlm : L + 1 ≠ lm) (off : OwnOff rest [L + 1, lm])
    (ret : ∀ h' tk' oc' l', Fr h₀ L h' m → News h₀ L h' ((L + 1, oc') :: (lm, listOf mvs.toArray nm) :: (l', listOf [].toArray 0) :: rest) → oc'.data = .cell (some (.ref l')) → OwnOff ((l', listOf [].toArray 0) :: rest) [L + 1, lm] → (∀ p ∈ rest, p.1 < l') → Q .next { s with heap := h', toks := tk' }) :
    wpAny (model PySem.Challenge.rw_pk0022_01.row.prog w) (lawA w.params dp un gd L a ccd outer) (exec (lawStmt w.params 3) (lawEnv w.params L a ccd)) Q E s := by
  w_on
  obtain ⟨hB, hX, hT, hd, hu⟩ := G
  revert hX
  k_fill
  intro hX
  conv in (lawStmt _ _) => whnf
  k_steps
  rename_i l9 h9 F9 N9 hlt
  refine store_cell (tgt := (lm, listOf mvs.toArray nm) :: (l9, listOf [].toArray 0) :: rest) (by k_asm) (by k_asm) ?m ho ?t ?_
  case m => exact .tail _ (.head _)
  case t =>
    intro p9 hp9
    rcases List.mem_cons.mp hp9 with rfl | hp9
    · exact ⟨.tail _ (.tail _ (.head _)), Ne.symm hlm⟩
    · rcases List.mem_cons.mp hp9 with rfl | hp9
      · exact ⟨.head _, neN (by dsimp only; omega)⟩
      · exact ⟨.tail _ (.tail _ (.tail _ hp9)), off _ hp9 _ (.head _)⟩
  intro h' o' F' N' d'
  k_steps
  all_goals (
    refine ret _ _ _ _ (by k_asm) (by k_asm) (by assumption) ?_ (ktn_ltOf hlt.2.2)
    intro p9 hp9
    rcases List.mem_cons.mp hp9 with rfl | hp9
    · intro b9 hb9
      rcases List.mem_cons.mp hb9 with rfl | hb9
      · refine neN ?_; dsimp only; omega
      · rw [List.mem_singleton.mp hb9]; refine neN ?_; dsimp only; omega
    · exact off p9 hp9)
end
end Mine
end

/- part L3 -/
section
open PySem PySem.W PyProof.Rows
set_option Elab.async false
set_option maxRecDepth 100000
set_option maxHeartbeats 8000000
namespace Mine
/-- the rows of a mail, told by its chain -/
def rowsS (c : List (Int × Int)) : List Str := (rangeKs 0 c.length).map (rowV c)
def textS (c : List (Int × Int)) : Str := Str.join crlf (rowsS c)
structure ChainOk (c : List (Int × Int)) : Prop where
  len : c.length ≤ 7
  pos : 1 ≤ c.length
  deed : ∀ x ∈ c, x.1 = 0 ∨ x.1 = 1 ∨ x.1 = 2
  kind : ∀ x ∈ c, 0 ≤ x.2 ∧ x.2 < 8
  split : Txt.split (textS c) (Str.ofString "\x0d\n") = rowsS c
  size : (textS c).length ≤ 2000
inductive MailsIn (news : List (Addr × Obj)) : List Value → List (List (Int × Int)) → Prop
  | nil : MailsIn news [] []
  | cons {b lc : Addr} {t : Tok} {vs : List Value} {n : Nat} {c : List (Int × Int)} {mvs : List Value} {ms : List (List (Int × Int))} : (b, pairObj (.ref lc) (.str (textS c) t)) ∈ news → (lc, listOf vs.toArray n) ∈ news → PairsIn news vs c → ChainOk c →
      MailsIn news mvs ms → MailsIn news (.ref b :: mvs) (c :: ms)
theorem MailsIn.mono {news news' : List (Addr × Obj)} (hs : ∀ p ∈ news, p ∈ news') : ∀ {mvs : List Value} {ms : List (List (Int × Int))}, MailsIn news mvs ms → MailsIn news' mvs ms
  | _, _, .nil => .nil
  | _, _, .cons h1 h2 h3 h4 r => .cons (hs _ h1) (hs _ h2) (h3.mono hs) h4 (MailsIn.mono hs r)
theorem MailsIn.length {news : List (Addr × Obj)} : ∀ {mvs : List Value} {ms : List (List (Int × Int))}, MailsIn news mvs ms → mvs.length = ms.length
  | _, _, .nil => rfl
  | _, _, .cons _ _ _ _ r => by rw [List.length_cons, List.length_cons, MailsIn.length r]
theorem MailsIn.snoc {news : List (Addr × Obj)} {b lc : Addr} {t : Tok} {vs : List Value} {n : Nat} {c : List (Int × Int)} (h1 : (b, pairObj (.ref lc) (.str (textS c) t)) ∈ news) (h2 : (lc, listOf vs.toArray n) ∈ news) (h3 : PairsIn news vs c) (h4 : ChainOk c) : ∀ {mvs : List Value} {ms : List (List (Int × Int))}, MailsIn news mvs ms → MailsIn news (mvs ++ [.ref b]) (ms ++ [c])
  | _, _, .nil => .cons h1 h2 h3 h4 .nil
  | _, _, .cons g1 g2 g3 g4 r => .cons g1 g2 g3 g4 (MailsIn.snoc h1 h2 h3 h4 r)
theorem MailsIn.get {news : List (Addr × Obj)} : ∀ {mvs : List Value} {ms : List (List (Int × Int))}, MailsIn news mvs ms → ∀ {k : Nat}, k < mvs.length → ∃ b lc t vs n c, mvs[k]? = some (.ref b) ∧ (b, pairObj (.ref lc) (.str (textS c) t)) ∈ news ∧ (lc, listOf vs.toArray n) ∈ news ∧ PairsIn news vs c ∧ ChainOk c ∧ c ∈ ms
  | _, _, .nil, k, hk => absurd hk (Nat.not_lt_zero _)
  | _, _, .cons (b := b) (lc := lc) (t := t) (vs := vs) (n := n) (c := c) h1 h2 h3 h4 r, 0, _ => ⟨b, lc, t, vs, n, c, rfl, h1, h2, h3, h4, List.mem_cons_self⟩
  | _, _, .cons h1 h2 h3 h4 r, k + 1, hk => by
    obtain ⟨b, lc, t, vs, n, c, e, g1, g2, g3, g4, g5⟩ := MailsIn.get r (k := k) (by simpa using hk)
    exact ⟨b, lc, t, vs, n, c, by simpa using e, g1, g2, g3, g4, List.mem_cons_of_mem _ g5⟩

section
variable {prog : Program} {w : World} {A : Around} {E : Value → Shared → Prop} {s : Shared} {h₀ : Heap} {L l : Addr}
/-- the item at a place that is known -/
theorem list_item {value slice : PySem.Expr} {news : List (Addr × Obj)} {vs : List Value} {n : Nat} {k : Int} {u : Tok} {v : Value} {Q : Value → Shared → Prop} (N : News h₀ L s.heap news) (hm : (l, listOf vs.toArray n) ∈ news)
    (h0 : 0 ≤ k) (h1 : k < 1000) (e : vs[k.toNat]? = some v) (h : Q v s)
    (hsub : subscripted slice false (.ref l) (.int k u) = operate [.ref l, .int k u] (getItem (.ref l) (.int k u)) := by with_unfolding_all rfl) :
    wpAny (model prog w) A (subscriptTail value slice (.ref l) (.int k u)) Q E s := by
  have hls : s.heap.IsList l vs.toArray := ⟨_, (N _ hm).1, rfl, n, rfl⟩
  exact tail_any hls.typeIs slot_list_getitem.lookup (wpAny_getItem_list hls h0 (by omega) (by simpa using e) h) hsub
theorem split_rule {x y : Str} {t u : Tok} {m : Str → Option Value} {news : List (Addr × Obj)} {Q : Value → Shared → Prop} (F : Fr h₀ L s.heap m) (N : News h₀ L s.heap news) (hy : (y.length == 0) = false) (hsz : x.length ≤ 5000)
    (h : ∀ D rvs h' tk', StrsAre rvs (Txt.split x y) → Fr h₀ L h' m → News h₀ L h' ((D, listOf (List.toArray rvs) 0) :: news) → (∀ p ∈ news, p.1 < D) → Q (.ref D) { s with heap := h', toks := tk' }) :
    wpAny (model prog w) A (call (.builtin "str.split") [.str x t, .str y u]) Q E s :=
  splitN1 F N hy (fun l h' k e F' N' => h _ (strValues l) h' k (e ▸ strsAre_of_values l) F' N' (fun p hp => Heap.lt_size (N p hp).1)) (by rw [sizeLine_eq]; omega)
theorem add_rule {x y : Addr} {vs us : List Value} {n n' : Nat} {m : Str → Option Value} {news : List (Addr × Obj)} {Q : Value → Shared → Prop} (F : Fr h₀ L s.heap m) (N : News h₀ L s.heap news) (h1 : (x, listOf vs.toArray n) ∈ news) (h2 : (y, listOf us.toArray n') ∈ news) (hz : vs.length + us.length ≤ 1000)
    (h : ∀ D h', Fr h₀ L h' m → News h₀ L h' ((D, listOf (vs ++ us).toArray 0) :: news) → (∀ p ∈ news, p.1 < D) → Q (.ref D) { s with heap := h' }) :
    wpAny (model prog w) A (binaryOp .Add (.ref x) (.ref y)) Q E s :=
  kmk_add_lit F N ⟨_, (N _ h1).1, rfl, n, rfl⟩ ⟨_, (N _ h2).1, rfl, n', rfl⟩ (by simp) h (by simp [sizeLine_eq]; omega)
end
end Mine
end

/- part L4 -/
section
open PySem PySem.W PyProof.Rows
set_option Elab.async false
set_option maxRecDepth 100000
set_option maxHeartbeats 8000000
namespace Mine
section
local macro_rules | `(tactic| walk_at "eval Name") => `(tactic| (k_here; k_dflt (refine' nameX_B ?k1 ?k2 ?k3 ?k4 ?k5 ?k6 ?_ ?k7 ?k8 ?k9); (case k7 => rfl); (case k8 => rfl); (case k9 => decide); (case k1 => k_asm); (case k2 => k_asm); (case k3 => k_asm); (case k4 => k_is); (case k5 => boot_by_name); (case k6 => decide)))
local macro_rules | `(tactic| walk_at "eval Name") => `(tactic| (k_here; k_dflt (refine' nameX_K ?k1 ?k2 ?k3 ?k4 ?_ ?k7 ?k8 ?k9); (case k7 => rfl); (case k8 => rfl); (case k9 => decide); (case k1 => k_asm); (case k2 => k_asm); (case k3 => k_asm); (case k4 => k_is)))
local macro_rules | `(tactic| walk_at "eval Name") => `(tactic| (k_here; k_dflt (refine' nameX_C ?k1 ?k2 ?k3 ?k4 ?_ ?k7 ?k8 ?k9); (case k7 => rfl); (case k8 => rfl); (case k9 => decide); (case k1 => k_asm); (case k2 => rfl); (case k3 => k_mem); (case k4 => assumption)))
local macro_rules | `(tactic| walk_at "eval Name") => `(tactic| (k_here; k_dflt (refine' nameX_L ?k1 ?k2 ?_ ?k3 ?k4 ?k5); (case k3 => rfl); (case k4 => rfl); (case k5 => decide); (case k1 => k_asm); (case k2 => assumption)))
local macro_rules | `(tactic| walk_at "storeName") => `(tactic| k_extra "my store")
local macro_rules | `(tactic| walk_at "call builtin:len") => `(tactic| (k_here; (refine' list_len ?k1 ?k2 ?k3 ?_); (case k1 => k_asm); (case k2 => k_mem); (case k3 => omega)))
local macro_rules | `(tactic| walk_at "call builtin:str.split") => `(tactic| (k_here; (refine' split_rule ?k1 ?k2 ?k3 ?k4 ?_); (case k1 => k_asm); (case k2 => k_asm); (case k3 => rfl); (case k4 => omega); intro D' rvs' h' tk' hS' F' N' l1'))
local macro_rules | `(tactic| walk_at "subscriptTail") => `(tactic| k_extra "my item")
local macro_rules | `(tactic| walk_at "subscriptTail Name BinOp ref int") => `(tactic| k_extra "my item")
local macro_rules | `(tactic| walk_at "call ref") => `(tactic| k_extra "my call")
section
variable {w : World} {p : Program} {loose : List Str} {mean : ExcName → Option Value} {mg mb : Str → Option Value} {A₀ : Around} {base h₀ : Heap} {outer : List Env} {dp un : Nat} {gd : Option (List Code)} {L a : Addr} {ccd : Value} {m : Str → Option Value} {news : List (Addr × Obj)} {s : Shared} {Q : Flow → Shared → Prop} {E : Value → Shared → Prop}
  {lm : Addr} {mvs : List Value} {nm : Nat} {oc : Obj} {v₀ : Option Value} {rest : List (Addr × Obj)}
theorem off_cons {b : Addr} {o : Obj} {x y : Addr} (h : OwnOff rest [x, y]) (h1 : x < b) (h2 : y < b) : OwnOff ((b, o) :: rest) [x, y] := by
  intro p hp
  rcases List.mem_cons.mp hp with rfl | hp
  · intro q hq
    rcases List.mem_cons.mp hq with rfl | hq
    · exact Nat.ne_of_gt h1
    · rw [List.mem_singleton.mp hq]; exact Nat.ne_of_gt h2
  · exact h p hp
theorem st4 (G : Gr w p loose mean mg mb A₀ base outer h₀ dp un) (F : Fr h₀ L s.heap m) (N : News h₀ L s.heap ((L + 1, oc) :: (lm, listOf mvs.toArray nm) :: rest)) (off : OwnOff rest [L + 1, lm])
    (ret : ∀ h' tk' l', Fr h₀ L h' (fun y => if y = Str.ofString "rows" then some (.ref l') else m y) → News h₀ L h' ((L + 1, oc) :: (lm, listOf mvs.toArray nm) :: (l', listOf [].toArray 0) :: rest) → OwnOff ((l', listOf [].toArray 0) :: rest) [L + 1, lm] → (∀ p ∈ rest, p.1 < l') → Q .next { s with heap := h', toks := tk' }) :
    wpAny (model PySem.Challenge.rw_pk0022_01.row.prog w) (lawA w.params dp un gd L a ccd outer) (exec (lawStmt w.params 4) (lawEnv w.params L a ccd)) Q E s := by
  w_on
  obtain ⟨hB, hX, hT, hd, hu⟩ := G
  revert hX
  k_fill
  intro hX
  k_with_none
  conv in (lawStmt _ _) => whnf
  k_steps
  (rename (_ < _ ∧ _ < _ ∧ AllLt _ _) => hlt)
  (rename News _ _ _ _ => hN9)
  refine ret _ _ _ (by k_asm) (sub_news hN9 ?_) (off_cons off hlt.1 hlt.2.1) (ktn_ltOf hlt.2.2)
  intro p9 hp9
  simp only [List.mem_cons] at hp9 ⊢
  rcases hp9 with h | h | h | h <;> simp [h]
theorem st5 {ms : List (List (Int × Int))} {x y : Int} (G : Gr w p loose mean mg mb A₀ base outer h₀ dp un) (F : Fr h₀ L s.heap m) (N : News h₀ L s.heap ((L + 1, oc) :: (lm, listOf mvs.toArray nm) :: rest)) (off : OwnOff rest [L + 1, lm]) (hlm : L + 1 ≠ lm)
    {rest₀ : List (Addr × Obj)} (hs₀ : ∀ p ∈ rest₀, p ∈ rest) (M : MailsIn rest₀ mvs ms) (hlen : mvs.length ≤ 7) {b : Int} {tb : Tok} (hb : m (Str.ofString "back") = some (.int b tb)) (hb0 : 0 ≤ b) (hmails : m (Str.ofString "mails") = some (.ref lm))
    {l1 l2 : Addr} (ho : oc.data = .cell (some (.ref l1))) (h1 : (l1, listOf [].toArray 0) ∈ rest) (h2 : (l2, listOf [].toArray 0) ∈ rest) (hrows : m (Str.ofString "rows") = some (.ref l2))
    (ret : ∀ h' tk' oc' lc vs n c lr rvs rest', Fr h₀ L h' (fun y => if y = Str.ofString "rows" then some (.ref lr) else m y) → News h₀ L h' ((L + 1, oc') :: (lm, listOf mvs.toArray nm) :: rest') → OwnOff rest' [L + 1, lm] → (∀ p ∈ rest, p ∈ rest') →
      oc'.data = .cell (some (.ref lc)) → (lc, listOf (List.toArray vs) n) ∈ rest → PairsIn rest₀ vs c → (lr, listOf (List.toArray rvs) 0) ∈ rest' → StrsAre rvs (rowsS c) → (c = [] ∨ (ChainOk c ∧ c ∈ ms)) → Q .next { s with heap := h', toks := tk' }) :
    wpAny (model PySem.Challenge.rw_pk0022_01.row.prog w) (lawA w.params dp un gd L a ccd outer) (exec (lawStmt w.params 5) (lawEnv w.params L a ccd)) Q E s := by
  w_on
  obtain ⟨hB, hX, hT, hd, hu⟩ := G
  revert hX
  k_fill
  intro hX
  k_with_none
  have hsub : ∀ {led : List (Addr × Obj)}, led = (L + 1, oc) :: (lm, listOf mvs.toArray nm) :: rest → ∀ p ∈ rest, p ∈ led := fun e p hp => by rw [e]; exact .tail _ (.tail _ hp)
  conv in (lawStmt _ _) => whnf
  by_cases hbk : b < (mvs.length : Int)
  · obtain ⟨b9, lc, t9, vs, n, c, e9, g1, g2, g3, g4, g5⟩ := M.get (k := ((mvs.length : Int) - 1 - b).toNat) (by omega)
    have hsz := g4.size
    replace g1 := hs₀ _ g1
    replace g2 := hs₀ _ g2
    k_with "my item" => (k_here; (refine list_item (by k_asm) (by k_mem) (by omega) (by omega) e9 ?_ (by with_unfolding_all rfl)))
    k_with "my item" => (k_here; (with_reducible show wpAny _ _ (subscriptTail _ _ (Value.ref _) (Value.int 0 _)) _ _ _); (refine pair_fst g1 (by k_asm) (by intro p9 hp9; repeat (first | exact hp9 | apply List.mem_cons_of_mem)) ?_ (by with_unfolding_all rfl)))
    k_with "my item" => (k_here; (with_reducible show wpAny _ _ (subscriptTail _ _ (Value.ref _) (Value.int 1 _)) _ _ _); (refine pair_snd g1 (by k_asm) (by intro p9 hp9; repeat (first | exact hp9 | apply List.mem_cons_of_mem)) ?_ (by with_unfolding_all rfl)))
    k_with "my store" => (k_here; (refine store_cell (tgt := (lm, listOf mvs.toArray nm) :: rest) (by k_asm) (by k_asm) (.head _) ho ?t ?_); (case t => (intro p9 hp9; rcases List.mem_cons.mp hp9 with rfl | hp9; exact ⟨.tail _ (.head _), Ne.symm hlm⟩; exact ⟨.tail _ (.tail _ hp9), off _ hp9 _ (.head _)⟩)); intro h' o' F' N' d')
    k_steps
    rename_i D9 rvs9 h9 tk9 hS9 l19 h99 F9 N9
    rw [g4.split] at hS9
    refine ret _ _ o' lc vs n c D9 rvs9 ((D9, listOf (List.toArray rvs9) 0) :: rest) (by k_asm) (sub_news N9 ?_) (off_cons off (l19 _ (.head _)) (l19 _ (.tail _ (.head _)))) (fun p hp => .tail _ hp) d' g2 g3 (.head _) hS9 (.inr ⟨g4, g5⟩)
    intro p9 hp9
    simp only [List.mem_cons] at hp9 ⊢
    rcases hp9 with h | h | h | h <;> simp [h]
  · k_steps
    have em : (fun y => if y = Str.ofString "rows" then some (Value.ref l2) else m y) = m := by
      funext y
      by_cases hy : y = Str.ofString "rows"
      · rw [if_pos hy, hy, hrows]
      · rw [if_neg hy]
    refine ret _ _ oc l1 [] 0 [] l2 [] rest (by rw [em]; k_asm) (by k_asm) off (fun p hp => hp) ho h1 .nil h2 .nil (.inl rfl)
end
end
end Mine
end

/- part U1 -/
section
open PySem PySem.W PyProof.Rows
set_option Elab.async false
set_option maxRecDepth 100000
set_option maxHeartbeats 4000000
namespace Mine
def commentV (x : Str) : Str := if (Txt.rstrip x).length = 0 then Str.ofString "#" else Str.ofString "# " ++ Txt.rstrip x
section
variable {w : World} {p : Program} {loose : List Str} {mean : ExcName → Option Value} {mg mb : Str → Option Value} {A₀ : Around} {base h₀ : Heap} {outer : List Env} {dp un : Nat} {gd : Option (List Code)} {cn : Str} {cs : Scope} {L a : Addr} {ccd : Value} {cl : List (Str × Addr)} {m : Str → Option Value} {news : List (Addr × Obj)} {s : Shared} {Q E : Value → Shared → Prop}
theorem use_comment {x : Str} {t : Tok} (hx : x.length ≤ 40000) (B : Below A₀ base outer h₀) (F : Fr h₀ L s.heap m) (X : (Mine.hd.heap_39 w.params).In h₀) (N : News h₀ L s.heap news) (T : Top p loose mean mg mb h₀) (hk : cs.kind = .function) (hd : dp + 1 < recursionLimit) (hu : un + 8 < cLine)
    (ret : ∀ t' h' tk', Fr h₀ L h' m → News h₀ L h' news → Q (.str (commentV x) t') { s with heap := h', toks := tk' }) :
    wpAny (model PySem.Challenge.rw_pk0022_01.row.prog w) (ktrTop dp un gd cn cs L a ccd cl outer) (call (.ref 38) [.str x t]) Q E s :=
  c_comment x t hx news dp un gd cn cs a ccd cl outer A₀ base h₀ L m s Q E B F X N T hk trivial hd hu ret
theorem use_fix {x : List Nat} {t : Tok} (hx : x.length ≤ 40000) (B : Below A₀ base outer h₀) (F : Fr h₀ L s.heap m) (X : (Mine.hd.heap_39 w.params).In h₀) (N : News h₀ L s.heap news) (T : Top p loose mean mg mb h₀) (hk : cs.kind = .function) (hd : dp + 1 < recursionLimit) (hu : un + 8 < cLine)
    (ret : ∀ t' h' tk', Fr h₀ L h' m → News h₀ L h' news → Q (.str (S (fixL x)) t') { s with heap := h', toks := tk' }) :
    wpAny (model PySem.Challenge.rw_pk0022_01.row.prog w) (ktrTop dp un gd cn cs L a ccd cl outer) (call (.ref 69) [.str (S x) t]) Q E s :=
  c_fix x t hx news dp un gd cn cs a ccd cl outer A₀ base h₀ L m s Q E B F X N T hk trivial hd hu ret
theorem use_quote {x : List Nat} {t : Tok} (hx : x.length ≤ 40000) (B : Below A₀ base outer h₀) (F : Fr h₀ L s.heap m) (X : (Mine.hd.heap_39 w.params).In h₀) (N : News h₀ L s.heap news) (T : Top p loose mean mg mb h₀) (hk : cs.kind = .function) (hd : dp + 1 < recursionLimit) (hu : un + 8 < cLine)
    (ret : ∀ t' h' tk', Fr h₀ L h' m → News h₀ L h' news → Q (.str (S (dotsL true (fixL x))) t') { s with heap := h', toks := tk' }) :
    wpAny (model PySem.Challenge.rw_pk0022_01.row.prog w) (ktrTop dp un gd cn cs L a ccd cl outer) (call (.ref 62) [.str (S x) t]) Q E s :=
  c_quote x t hx news dp un gd cn cs a ccd cl outer A₀ base h₀ L m s Q E B F X N T hk trivial hd hu ret
theorem use_strip {x : Str} {t : Tok} (hx : x.length ≤ 40000) (B : Below A₀ base outer h₀) (F : Fr h₀ L s.heap m) (X : (Mine.hd.heap_39 w.params).In h₀) (N : News h₀ L s.heap news) (T : Top p loose mean mg mb h₀) (hk : cs.kind = .function) (hd : dp + 1 < recursionLimit) (hu : un + 8 < cLine)
    (ret : ∀ t' h' tk', Fr h₀ L h' m → News h₀ L h' news → Q (.str (stripV x) t') { s with heap := h', toks := tk' }) :
    wpAny (model PySem.Challenge.rw_pk0022_01.row.prog w) (ktrTop dp un gd cn cs L a ccd cl outer) (call (.ref 45) [.str x t]) Q E s :=
  c_strip x t hx news dp un gd cn cs a ccd cl outer A₀ base h₀ L m s Q E B F X N T hk trivial hd hu ret
theorem use_kind {n : Int} {t : Tok} (h0 : 0 ≤ n) (h8 : n < 8) (B : Below A₀ base outer h₀) (F : Fr h₀ L s.heap m) (X : (Mine.hd.heap_39 w.params).In h₀) (N : News h₀ L s.heap news) (T : Top p loose mean mg mb h₀) (hk : cs.kind = .function) (hd : dp + 1 < recursionLimit) (hu : un + 8 < cLine)
    (ret : KindRet h₀ L m s news n Q) :
    wpAny (model PySem.Challenge.rw_pk0022_01.row.prog w) (ktrTop dp un gd cn cs L a ccd cl outer) (call (.ref 76) [.int n t]) Q E s :=
  c_kind n t h0 h8 news dp un gd cn cs a ccd cl outer A₀ base h₀ L m s Q E B F X N T hk hd hu ret
theorem use_row {lc : Addr} {vs : List Value} {nn : Nat} {c : List (Int × Int)} {k : Int} {t : Tok} (hk0 : 0 ≤ k) (hk1 : k < (c.length : Int)) (hl : c.length ≤ 64) (hkind : ∀ j, 0 ≤ j → j < (c.length : Int) → 0 ≤ kAt c j ∧ kAt c j < 8)
    (hm : (lc, listOf vs.toArray nn) ∈ news) (hp : PairsIn news vs c) (B : Below A₀ base outer h₀) (F : Fr h₀ L s.heap m) (X : (Mine.hd.heap_39 w.params).In h₀) (N : News h₀ L s.heap news) (T : Top p loose mean mg mb h₀) (hk : cs.kind = .function) (hd : dp + 4 < recursionLimit) (hu : un + 200 < cLine)
    (ret : ∀ t' h' tk', Fr h₀ L h' m → News h₀ L h' news → Q (.str (rowV c k) t') { s with heap := h', toks := tk' }) :
    wpAny (model PySem.Challenge.rw_pk0022_01.row.prog w) (ktrTop dp un gd cn cs L a ccd cl outer) (call (.ref 81) [.ref lc, .int k t]) Q E s :=
  c_row lc vs nn c k t hk0 hk1 hl hkind news hm hp dp un gd cn cs a ccd cl outer A₀ base h₀ L m s Q E B F X N T hk hd hu ret
end
end Mine
end

/- part L5 -/
section
open PySem PySem.W PyProof.Rows
set_option Elab.async false
set_option maxRecDepth 100000
set_option maxHeartbeats 8000000
namespace Mine
section
local macro_rules | `(tactic| walk_at "eval Name") => `(tactic| (k_here; k_dflt (refine' nameX_B ?k1 ?k2 ?k3 ?k4 ?k5 ?k6 ?_ ?k7 ?k8 ?k9); (case k7 => rfl); (case k8 => rfl); (case k9 => decide); (case k1 => k_asm); (case k2 => k_asm); (case k3 => k_asm); (case k4 => k_is); (case k5 => boot_by_name); (case k6 => decide)))
local macro_rules | `(tactic| walk_at "eval Name") => `(tactic| (k_here; k_dflt (refine' nameX_K ?k1 ?k2 ?k3 ?k4 ?_ ?k7 ?k8 ?k9); (case k7 => rfl); (case k8 => rfl); (case k9 => decide); (case k1 => k_asm); (case k2 => k_asm); (case k3 => k_asm); (case k4 => k_is)))
local macro_rules | `(tactic| walk_at "eval Name") => `(tactic| (k_here; k_dflt (refine' nameX_C ?k1 ?k2 ?k3 ?k4 ?_ ?k7 ?k8 ?k9); (case k7 => rfl); (case k8 => rfl); (case k9 => decide); (case k1 => k_asm); (case k2 => rfl); (case k3 => k_mem); (case k4 => assumption)))
local macro_rules | `(tactic| walk_at "eval Name") => `(tactic| (k_here; k_dflt (refine' nameX_L ?k1 ?k2 ?_ ?k3 ?k4 ?k5); (case k3 => rfl); (case k4 => rfl); (case k5 => decide); (case k1 => k_asm); (case k2 => assumption)))
local macro_rules | `(tactic| walk_at "storeName") => `(tactic| k_extra "my store")
local macro_rules | `(tactic| walk_at "call builtin:len") => `(tactic| (k_here; (refine' list_len ?k1 ?k2 ?k3 ?_); (case k1 => k_asm); (case k2 => k_mem); (case k3 => omega)))
local macro_rules | `(tactic| walk_at "call builtin:str.split") => `(tactic| (k_here; (refine' split_rule ?k1 ?k2 ?k3 ?k4 ?_); (case k1 => k_asm); (case k2 => k_asm); (case k3 => rfl); (case k4 => omega); intro D' rvs' h' tk' hS' F' N' l1'))
local macro_rules | `(tactic| walk_at "subscriptTail") => `(tactic| k_extra "my item")
local macro_rules | `(tactic| walk_at "subscriptTail Name BinOp ref int") => `(tactic| k_extra "my item")
local macro_rules | `(tactic| walk_at "call ref") => `(tactic| k_extra "my call")
section
variable {w : World} {p : Program} {loose : List Str} {mean : ExcName → Option Value} {mg mb : Str → Option Value} {A₀ : Around} {base h₀ : Heap} {outer : List Env} {dp un : Nat} {gd : Option (List Code)} {L a : Addr} {ccd : Value} {m : Str → Option Value} {news : List (Addr × Obj)} {s : Shared} {Q : Flow → Shared → Prop} {E : Value → Shared → Prop}
  {lm : Addr} {mvs : List Value} {nm : Nat} {oc : Obj} {v₀ : Option Value} {rest : List (Addr × Obj)}
end
section
variable {prog : Program} {w : World} {A : Around} {h₀ : Heap} {L : Addr} {m : Str → Option Value} {env : Env} {elt : Expr} {x : Str} {scope : Scope} {cl : List (Str × Addr)} {s : Shared} {S : List (Addr × Obj) → Prop} {Fin : List Value → List (Addr × Obj) → Prop} {news : List (Addr × Obj)}
/-- what an element's call leaves -/
def EltStr (h₀ : Heap) (L : Addr) (m : Str → Option Value) (s : Shared) (led : List (Addr × Obj)) (r : Str) (v : Value) (s₂ : Shared) : Prop := ∃ h' tk' t', v = .str r t' ∧ s₂ = { s with heap := h', toks := tk' } ∧ Fr h₀ L h' m ∧ News h₀ L h' led
theorem cstr_rest {rvs : List Value} {ys : List Str} (g : Str → Str) (hi : StrsAre rvs ys) (hS : S news)
    (turn : ∀ y t I oI C oC D m₂ zs h tk (E' : Value → Shared → Prop), y ∈ ys → LCg.NsObj oC m₂ → m₂ x = some (.str y t) → Fr h₀ L h m → News h₀ L h ((I, oI) :: (C, oC) :: (D, LCg.lst zs) :: news) → LCg.Off3 I C D news → ((@Ne Nat I C) ∧ (@Ne Nat I D) ∧ (@Ne Nat C D)) →
      wpAny (model prog w) A (eval elt (compEnvC scope cl C env)) (EltStr h₀ L m s ((I, oI) :: (C, oC) :: (D, LCg.lst zs) :: news) (g y)) E' { s with heap := h, toks := tk })
    (fin : ∀ zs, StrsAre zs (ys.map g) → Fin zs news) : LCg.CompRest prog w A h₀ L m env elt x scope cl s S (fun i v => rvs.toArray[i]? = some v) Fin rvs.toArray.size 0 [] news := by
  have hlen : rvs.length = ys.length := hi.length
  have key : ∀ (j i : Nat) (zs : List Value), i + j = rvs.length → StrsAre zs ((ys.take i).map g) → LCg.CompRest prog w A h₀ L m env elt x scope cl s S (fun i v => rvs.toArray[i]? = some v) Fin j i zs news := by
    intro j
    induction j with
    | zero =>
      intro i zs hi' hz
      rw [show i = ys.length by omega, List.take_length] at hz
      exact LCg.CompRest.zero (fin zs hz)
    | succ j ih =>
      intro i zs hi' hz
      refine LCg.CompRest.succ ?_
      intro v I oI C oC D m₂ h tk E' hv hC hx F N off ne
      have hiy : i < ys.length := by omega
      obtain ⟨t, ht⟩ := hi.get i (ys[i]) (List.getElem?_eq_getElem hiy)
      have ev : v = .str (ys[i]) t := by
        have hv' : rvs[i]? = some v := by simpa using hv
        rw [ht] at hv'; exact (Option.some.inj hv').symm
      rw [ev] at hx
      refine wpAny_mono (turn (ys[i]) t I oI C oC D m₂ zs h tk E' (List.getElem_mem hiy) hC hx F N off ne) (fun y s₂ hq => ?_) fun _ _ e => e
      obtain ⟨h', tk', t', hy, hs, F', N'⟩ := hq
      refine ⟨h', tk', news, hs, F', N', off, hS, ?_⟩
      rw [hy]
      refine ih (i + 1) _ (by omega) ?_
      rw [List.take_add_one, List.getElem?_eq_getElem hiy, Option.toList_some, List.map_append]
      exact kct_snoc hz
  rw [List.size_toArray]
  exact key rvs.length 0 [] (by omega) (by simp only [List.take_zero, List.map_nil]; exact .nil)
end
section
variable {w : World} {p : Program} {loose : List Str} {mean : ExcName → Option Value} {mg mb : Str → Option Value} {A₀ : Around} {base h₀ : Heap} {outer : List Env} {dp un : Nat} {gd : Option (List Code)} {L a : Addr} {ccd : Value} {m : Str → Option Value} {news : List (Addr × Obj)} {s : Shared} {Q : Flow → Shared → Prop} {E : Value → Shared → Prop}
  {lm : Addr} {mvs : List Value} {nm : Nat} {oc : Obj} {v₀ : Option Value} {rest : List (Addr × Obj)}
local macro_rules | `(tactic| walk_at "exec Assign cons ListComp") => `(tactic| (k_here; k_dflt (refine LCg.Assign_ListComp_U (F₀ := by k_asm) (by rfl) (by with_unfolding_all rfl) (by with_unfolding_all rfl) (by decide) (by rfl) (by decide) (by rfl) (by rfl) (by rfl) ?_)))
local macro_rules | `(tactic| walk_at "CompSrc") => `(tactic| k_extra "my src")
theorem off_cons' {b : Addr} {o : Obj} {x y : Addr} (h : OwnOff rest [x, y]) (h1 : x ≠ b) (h2 : y ≠ b) : OwnOff ((b, o) :: rest) [x, y] := by
  intro p hp
  rcases List.mem_cons.mp hp with rfl | hp
  · intro q hq
    rcases List.mem_cons.mp hq with rfl | hq
    · exact Ne.symm h1
    · rw [List.mem_singleton.mp hq]; exact Ne.symm h2
  · exact h p hp
theorem led3 {q1 q2 q3 : Addr × Obj} : ∀ p ∈ q1 :: q2 :: q3 :: rest, p ∈ q3 :: q1 :: q2 :: rest := by
  intro p hp
  simp only [List.mem_cons] at hp ⊢
  rcases hp with h | h | h | h <;> simp [h]
theorem same_rows {lr : Addr} (hrows : m (Str.ofString "rows") = some (.ref lr)) : (fun y => if y = Str.ofString "rows" then some (Value.ref lr) else m y) = m := by
  funext y
  by_cases hy : y = Str.ofString "rows"
  · rw [if_pos hy, hy, hrows]
  · rw [if_neg hy]
theorem st6 {d : Int} {td : Tok} {lr : Addr} {rvs : List Value} {rows : List Str} (G : Gr w p loose mean mg mb A₀ base outer h₀ dp un) (F : Fr h₀ L s.heap m) (N : News h₀ L s.heap ((L + 1, oc) :: (lm, listOf mvs.toArray nm) :: rest)) (off : OwnOff rest [L + 1, lm])
    (hdeed : m (Str.ofString "deed") = some (.int d td)) (hrows : m (Str.ofString "rows") = some (.ref lr)) (hr : (lr, listOf rvs.toArray 0) ∈ rest) (hS : StrsAre rvs rows) (hn : rvs.length ≤ 7) (hsz : ∀ y ∈ rows, y.length ≤ 2000)
    (ret : ∀ h' tk' lr' rvs' n' rest', Fr h₀ L h' (fun y => if y = Str.ofString "rows" then some (.ref lr') else m y) → News h₀ L h' ((L + 1, oc) :: (lm, listOf mvs.toArray nm) :: rest') → OwnOff rest' [L + 1, lm] → (∀ p ∈ rest, p ∈ rest') →
      (lr', listOf (List.toArray rvs') n') ∈ rest' → StrsAre rvs' (if d = 1 then rows.map commentV else rows) → Q .next { s with heap := h', toks := tk' }) :
    wpAny (model PySem.Challenge.rw_pk0022_01.row.prog w) (lawA w.params dp un gd L a ccd outer) (exec (lawStmt w.params 6) (lawEnv w.params L a ccd)) Q E s := by
  w_on
  obtain ⟨hB, hX, hT, hd, hu⟩ := G
  revert hX
  k_fill
  intro hX
  k_with_none
  conv in (lawStmt _ _) => whnf
  have hrun : ∀ y ∈ rows, y.length ≤ 40000 := fun y hy => Nat.le_trans (hsz y hy) (by omega)
  k_with "my src" => (k_here; refine LCg.CompSrc.ledger (by rfl) (by k_asm) (by k_asm) (.tail _ (.tail _ hr)) (by rw [List.size_toArray, sizeLine_eq]; omega) ?_; intro g9; refine cstr_rest commentV hS (.inr ⟨_, .tail _ (.tail _ hr), rfl, _, rfl⟩) ?_ ?_; intro y9 t9 I9 oI9 C9 oC9 D9 m9 zs9 h9 tk9 E9 hy9 hC9 hx9 F9 N9 off9 ne9)
  k_with "my call" => (k_here; refine use_comment (hrun _ (by assumption)) (by k_asm) (by k_asm) (by k_asm) (by k_asm) (by k_asm) rfl (by omega) (by omega) ?_; intro t9 h9 tk9 F9 N9)
  k_steps
  · exact ⟨_, _, _, rfl, rfl, by k_asm, by k_asm⟩
  · rename_i hd1 zs hz D9 h9 tk9 F9 N9 o9
    refine ret _ _ D9 zs zs.length ((D9, listOf (List.toArray zs) zs.length) :: rest) F9 (sub_news N9 led3) (off_cons' off o9.1 o9.2.1) (fun p hp => .tail _ hp) (.head _) ?_
    rw [if_pos hd1]; exact hz
  · rename_i hd1
    refine ret _ _ lr rvs 0 rest (by rw [same_rows hrows]; k_asm) (by k_asm) off (fun p hp => hp) hr ?_
    rw [if_neg hd1]; exact hS
end
end
end Mine
end

/- part L6 -/
section
open PySem PySem.W PyProof.Rows
set_option Elab.async false
set_option maxRecDepth 100000
set_option maxHeartbeats 8000000
namespace Mine
section
local macro_rules | `(tactic| walk_at "eval Name") => `(tactic| (k_here; k_dflt (refine' nameX_B ?k1 ?k2 ?k3 ?k4 ?k5 ?k6 ?_ ?k7 ?k8 ?k9); (case k7 => rfl); (case k8 => rfl); (case k9 => decide); (case k1 => k_asm); (case k2 => k_asm); (case k3 => k_asm); (case k4 => k_is); (case k5 => boot_by_name); (case k6 => decide)))
local macro_rules | `(tactic| walk_at "eval Name") => `(tactic| (k_here; k_dflt (refine' nameX_K ?k1 ?k2 ?k3 ?k4 ?_ ?k7 ?k8 ?k9); (case k7 => rfl); (case k8 => rfl); (case k9 => decide); (case k1 => k_asm); (case k2 => k_asm); (case k3 => k_asm); (case k4 => k_is)))
local macro_rules | `(tactic| walk_at "eval Name") => `(tactic| (k_here; k_dflt (refine' nameX_C ?k1 ?k2 ?k3 ?k4 ?_ ?k7 ?k8 ?k9); (case k7 => rfl); (case k8 => rfl); (case k9 => decide); (case k1 => k_asm); (case k2 => rfl); (case k3 => k_mem); (case k4 => assumption)))
local macro_rules | `(tactic| walk_at "eval Name") => `(tactic| (k_here; k_dflt (refine' nameX_L ?k1 ?k2 ?_ ?k3 ?k4 ?k5); (case k3 => rfl); (case k4 => rfl); (case k5 => decide); (case k1 => k_asm); (case k2 => assumption)))
local macro_rules | `(tactic| walk_at "storeName") => `(tactic| k_extra "my store")
local macro_rules | `(tactic| walk_at "call builtin:len") => `(tactic| (k_here; (refine' list_len ?k1 ?k2 ?k3 ?_); (case k1 => k_asm); (case k2 => k_mem); (case k3 => omega)))
local macro_rules | `(tactic| walk_at "call builtin:str.split") => `(tactic| (k_here; (refine' split_rule ?k1 ?k2 ?k3 ?k4 ?_); (case k1 => k_asm); (case k2 => k_asm); (case k3 => rfl); (case k4 => omega); intro D' rvs' h' tk' hS' F' N' l1'))
local macro_rules | `(tactic| walk_at "subscriptTail") => `(tactic| k_extra "my item")
local macro_rules | `(tactic| walk_at "subscriptTail Name BinOp ref int") => `(tactic| k_extra "my item")
local macro_rules | `(tactic| walk_at "call ref") => `(tactic| k_extra "my call")
section
variable {w : World} {p : Program} {loose : List Str} {mean : ExcName → Option Value} {mg mb : Str → Option Value} {A₀ : Around} {base h₀ : Heap} {outer : List Env} {dp un : Nat} {gd : Option (List Code)} {L a : Addr} {ccd : Value} {m : Str → Option Value} {news : List (Addr × Obj)} {s : Shared} {Q : Flow → Shared → Prop} {E : Value → Shared → Prop}
  {lm : Addr} {mvs : List Value} {nm : Nat} {oc : Obj} {v₀ : Option Value} {rest : List (Addr × Obj)}
local macro_rules | `(tactic| walk_at "binaryOp Add ref ref") => `(tactic| k_extra "my add")
theorem st7 {d κ : Int} {td tκ : Tok} {lc : Addr} {vs : List Value} {n : Nat} {c : List (Int × Int)} (G : Gr w p loose mean mg mb A₀ base outer h₀ dp un) (F : Fr h₀ L s.heap m) (N : News h₀ L s.heap ((L + 1, oc) :: (lm, listOf mvs.toArray nm) :: rest)) (off : OwnOff rest [L + 1, lm]) (hlm : L + 1 ≠ lm)
    (hdeed : m (Str.ofString "deed") = some (.int d td)) (hkind : m (Str.ofString "kind") = some (.int κ tκ)) (ho : oc.data = .cell (some (.ref lc))) (hc : (lc, listOf vs.toArray n) ∈ rest) (hp : PairsIn rest vs c) (hl : c.length ≤ 7)
    (ret : ∀ h' tk' oc' lc' tp, Fr h₀ L h' m → News h₀ L h' ((L + 1, oc') :: (lm, listOf mvs.toArray nm) :: (lc', listOf (vs ++ [Value.ref tp]).toArray 0) :: (tp, pairObj (.int d td) (.int κ tκ)) :: rest) →
      OwnOff ((lc', listOf (vs ++ [Value.ref tp]).toArray 0) :: (tp, pairObj (.int d td) (.int κ tκ)) :: rest) [L + 1, lm] → oc'.data = .cell (some (.ref lc')) → (∀ p ∈ rest, p.1 < tp) → tp < lc' → Q .next { s with heap := h', toks := tk' }) :
    wpAny (model PySem.Challenge.rw_pk0022_01.row.prog w) (lawA w.params dp un gd L a ccd outer) (exec (lawStmt w.params 7) (lawEnv w.params L a ccd)) Q E s := by
  w_on
  obtain ⟨hB, hX, hT, hd, hu⟩ := G
  revert hX
  k_fill
  intro hX
  k_with_none
  have hvl := hp.length
  k_with "my add" => (k_here; refine add_rule (by k_asm) (by k_asm) (List.mem_cons_of_mem _ (List.mem_cons_of_mem _ (List.mem_cons_of_mem _ (List.mem_cons_of_mem _ hc)))) (.head _) (by simp only [List.length_cons, List.length_nil]; omega) ?_; intro D9 h9 F9 N9 l19)
  conv in (lawStmt _ _) => whnf
  k_steps
  rename_i tp h8 hlt1 l8 h7 F7 N7 hlt2
  refine store_cell (tgt := (lm, listOf mvs.toArray nm) :: (D9, listOf (vs ++ [Value.ref tp]).toArray 0) :: (tp, pairObj (.int d td) (.int κ tκ)) :: rest) F9 N9 ?m ho ?t ?_
  case m => exact .tail _ (.tail _ (.tail _ (.head _)))
  case t =>
    intro p9 hp9
    rcases List.mem_cons.mp hp9 with rfl | hp9
    · exact ⟨.tail _ (.tail _ (.tail _ (.tail _ (.head _)))), Ne.symm hlm⟩
    · rcases List.mem_cons.mp hp9 with rfl | hp9
      · exact ⟨.head _, Nat.ne_of_gt (l19 _ (.tail _ (.tail _ (.head _))))⟩
      · rcases List.mem_cons.mp hp9 with rfl | hp9
        · exact ⟨.tail _ (.tail _ (.head _)), Nat.ne_of_gt hlt1.1⟩
        · exact ⟨.tail _ (.tail _ (.tail _ (.tail _ (.tail _ hp9)))), off _ hp9 _ (.head _)⟩
  intro h' o' F' N' d'
  k_steps
  exact ret _ _ o' D9 tp F' N' (off_cons (off_cons off hlt1.1 hlt1.2.1) (l19 _ (.tail _ (.tail _ (.head _)))) (l19 _ (.tail _ (.tail _ (.tail _ (.head _)))))) d' (ktn_ltOf hlt1.2.2) (l19 _ (.tail _ (.head _)))
end
end
end Mine
end

/- part L7 -/
section
open PySem PySem.W PyProof.Rows
set_option Elab.async false
set_option maxRecDepth 100000
set_option maxHeartbeats 8000000
namespace Mine
section
local macro_rules | `(tactic| walk_at "eval Name") => `(tactic| (k_here; k_dflt (refine' nameX_B ?k1 ?k2 ?k3 ?k4 ?k5 ?k6 ?_ ?k7 ?k8 ?k9); (case k7 => rfl); (case k8 => rfl); (case k9 => decide); (case k1 => k_asm); (case k2 => k_asm); (case k3 => k_asm); (case k4 => k_is); (case k5 => boot_by_name); (case k6 => decide)))
local macro_rules | `(tactic| walk_at "eval Name") => `(tactic| (k_here; k_dflt (refine' nameX_K ?k1 ?k2 ?k3 ?k4 ?_ ?k7 ?k8 ?k9); (case k7 => rfl); (case k8 => rfl); (case k9 => decide); (case k1 => k_asm); (case k2 => k_asm); (case k3 => k_asm); (case k4 => k_is)))
local macro_rules | `(tactic| walk_at "eval Name") => `(tactic| (k_here; k_dflt (refine' nameX_C ?k1 ?k2 ?k3 ?k4 ?_ ?k7 ?k8 ?k9); (case k7 => rfl); (case k8 => rfl); (case k9 => decide); (case k1 => k_asm); (case k2 => rfl); (case k3 => k_mem); (case k4 => assumption)))
local macro_rules | `(tactic| walk_at "eval Name") => `(tactic| (k_here; k_dflt (refine' nameX_L ?k1 ?k2 ?_ ?k3 ?k4 ?k5); (case k3 => rfl); (case k4 => rfl); (case k5 => decide); (case k1 => k_asm); (case k2 => assumption)))
local macro_rules | `(tactic| walk_at "storeName") => `(tactic| k_extra "my store")
local macro_rules | `(tactic| walk_at "call builtin:len") => `(tactic| (k_here; (refine' list_len ?k1 ?k2 ?k3 ?_); (case k1 => k_asm); (case k2 => k_mem); (case k3 => omega)))
local macro_rules | `(tactic| walk_at "call builtin:str.split") => `(tactic| (k_here; (refine' split_rule ?k1 ?k2 ?k3 ?k4 ?_); (case k1 => k_asm); (case k2 => k_asm); (case k3 => rfl); (case k4 => omega); intro D' rvs' h' tk' hS' F' N' l1'))
local macro_rules | `(tactic| walk_at "subscriptTail") => `(tactic| k_extra "my item")
local macro_rules | `(tactic| walk_at "subscriptTail Name BinOp ref int") => `(tactic| k_extra "my item")
local macro_rules | `(tactic| walk_at "call ref") => `(tactic| k_extra "my call")
section
variable {w : World} {p : Program} {loose : List Str} {mean : ExcName → Option Value} {mg mb : Str → Option Value} {A₀ : Around} {base h₀ : Heap} {outer : List Env} {dp un : Nat} {gd : Option (List Code)} {L a : Addr} {ccd : Value} {m : Str → Option Value} {news : List (Addr × Obj)} {s : Shared} {Q : Flow → Shared → Prop} {E : Value → Shared → Prop}
  {lm : Addr} {mvs : List Value} {nm : Nat} {oc : Obj} {v₀ : Option Value} {rest : List (Addr × Obj)}
local macro_rules | `(tactic| walk_at "binaryOp Add ref ref") => `(tactic| k_extra "my add")
local macro_rules | `(tactic| walk_at "call builtin:str.join") => `(tactic| k_extra "my join")
local macro_rules | `(tactic| walk_at "subscriptTail List BinOp ref int") => `(tactic| k_extra "my item")
theorem join_rule {prog : Program} {A : Around} {E : Value → Shared → Prop} {D : Addr} {vs : List Value} {n : Nat} {ys : List Str} {x : Str} {t : Tok} {Q : Value → Shared → Prop} (N : News h₀ L s.heap news) (hm : (D, listOf vs.toArray n) ∈ news) (hS : StrsAre vs ys) (hz : (ys.map (·.length)).sum ≤ 100000) (hn : ys.length ≤ 100) (hx : x.length ≤ 8)
    (h : ∀ t' k, Q (.str (Str.join x ys) t') { s with toks := k }) : wpAny (model prog w) A (call (.builtin "str.join") [.str x t, .ref D]) Q E s :=
  join_list (items := vs.toArray) ⟨_, (N _ hm).1, rfl, n, rfl⟩ (by simpa using hS) (by have := Nat.mul_le_mul hn hx; omega) (fun t' k => by rw [tjoin_eq]; exact h t' k)
def sepS (x : Int) : Str := if Int.fmod (Int.fdiv x 24) 3 = 0 then Str.ofString "\n" else if Int.fmod (Int.fdiv x 24) 3 = 1 then Str.ofString "\x0d" else Str.ofString "\x0d\n"
theorem st8 {x κ : Int} {tx tκ : Tok} {lr : Addr} {rvs : List Value} {n : Nat} {rows : List Str} (G : Gr w p loose mean mg mb A₀ base outer h₀ dp un) (F : Fr h₀ L s.heap m) (N : News h₀ L s.heap ((L + 1, oc) :: (lm, listOf mvs.toArray nm) :: rest))
    (hx : m (Str.ofString "x") = some (.int x tx)) (hkind : m (Str.ofString "kind") = some (.int κ tκ)) (h0 : 0 ≤ κ) (h8 : κ < 8) (hrows : m (Str.ofString "rows") = some (.ref lr)) (hr : (lr, listOf rvs.toArray n) ∈ rest) (hS : StrsAre rvs rows) (hn : rvs.length ≤ 7) (hsz : (rows.map (·.length)).sum ≤ 20000)
    (ret : ∀ h' t' tk', Fr h₀ L h' (fun y => if y = Str.ofString "laid" then some (.str (Str.join (sepS x) (rows ++ [S (bareL κ)])) t') else m y) → News h₀ L h' ((L + 1, oc) :: (lm, listOf mvs.toArray nm) :: rest) → Q .next { s with heap := h', toks := tk' }) :
    wpAny (model PySem.Challenge.rw_pk0022_01.row.prog w) (lawA w.params dp un gd L a ccd outer) (exec (lawStmt w.params 8) (lawEnv w.params L a ccd)) Q E s := by
  w_on
  obtain ⟨hB, hX, hT, hd, hu⟩ := G
  revert hX
  k_fill
  intro hX
  k_with_none
  have hb9 := bare_len κ
  have hrl := hS.length
  have he : Int.fmod (Int.fdiv x 24) 3 = 0 ∨ Int.fmod (Int.fdiv x 24) 3 = 1 ∨ Int.fmod (Int.fdiv x 24) 3 = 2 := by
    have h1 := Int.fmod_nonneg_of_pos (Int.fdiv x 24) (b := 3) (by omega)
    have h2 := Int.fmod_lt_of_pos (Int.fdiv x 24) (b := 3) (by omega)
    omega
  conv in (lawStmt _ _) => whnf
  k_with "my add" => (k_here; refine add_rule (by k_asm) (by k_asm) (by (repeat apply List.mem_cons_of_mem); exact hr) (.head _) (by simp only [List.length_cons, List.length_nil]; omega) ?_; intro D9 h9 F9 N9 l19)
  k_with "my call" => (k_here; refine use_kind h0 h8 (by k_asm) (by k_asm) (by k_asm) (by k_asm) (by k_asm) rfl (by omega) (by omega) ?_; intro b9 t9 u9 h9 tk9 F9 N9 l19)
  k_with "my item" => (k_here; (with_reducible show wpAny _ _ (subscriptTail _ _ (Value.ref _) (Value.int 0 _)) _ _ _); (refine pair_fst (List.Mem.head _) (by k_asm) (fun p hp => hp) ?_ (by with_unfolding_all rfl)))
  k_with "my join" => (k_here; refine join_rule (by k_asm) (List.Mem.head _) (StrsAre.append' hS (.cons _ _ .nil)) (by simp only [List.map_append, List.sum_append, List.map_cons, List.map_nil, List.sum_cons, List.sum_nil, List.length_append, List.length_cons, List.length_nil]; omega) (by simp only [List.length_append, List.length_cons, List.length_nil]; omega) (by decide) ?_; intro t9 k9)
  rcases he with he | he | he
  · k_with "my item" => (k_here; (refine list_item (by k_asm) (by k_mem) (by omega) (by omega) (by rw [he]; rfl) ?_ (by with_unfolding_all rfl)))
    k_steps
    all_goals (
      (rename News _ _ _ _ => N8)
      refine' ret _ _ _ ?F (sub_news N8 ?S)
      (case S => (intro p9 hp9; repeat (first | exact hp9 | apply List.mem_cons_of_mem)))
      (case F => (unfold sepS; rw [if_pos he]; k_asm)))
  · k_with "my item" => (k_here; (refine list_item (by k_asm) (by k_mem) (by omega) (by omega) (by rw [he]; rfl) ?_ (by with_unfolding_all rfl)))
    k_steps
    all_goals (
      (rename News _ _ _ _ => N8)
      refine' ret _ _ _ ?F (sub_news N8 ?S)
      (case S => (intro p9 hp9; repeat (first | exact hp9 | apply List.mem_cons_of_mem)))
      (case F => (unfold sepS; rw [if_neg (by rw [he]; decide), if_pos he]; k_asm)))
  · k_with "my item" => (k_here; (refine list_item (by k_asm) (by k_mem) (by omega) (by omega) (by rw [he]; rfl) ?_ (by with_unfolding_all rfl)))
    k_steps
    all_goals (
      (rename News _ _ _ _ => N8)
      refine' ret _ _ _ ?F (sub_news N8 ?S)
      (case S => (intro p9 hp9; repeat (first | exact hp9 | apply List.mem_cons_of_mem)))
      (case F => (unfold sepS; rw [if_neg (by rw [he]; decide), if_neg (by rw [he]; decide)]; k_asm)))
end
end
end Mine
end

/- part L8 -/
section
open PySem PySem.W PyProof.Rows
set_option Elab.async false
set_option maxRecDepth 100000
set_option maxHeartbeats 8000000
namespace Mine
section
local macro_rules | `(tactic| walk_at "eval Name") => `(tactic| (k_here; k_dflt (refine' nameX_B ?k1 ?k2 ?k3 ?k4 ?k5 ?k6 ?_ ?k7 ?k8 ?k9); (case k7 => rfl); (case k8 => rfl); (case k9 => decide); (case k1 => k_asm); (case k2 => k_asm); (case k3 => k_asm); (case k4 => k_is); (case k5 => boot_by_name); (case k6 => decide)))
local macro_rules | `(tactic| walk_at "eval Name") => `(tactic| (k_here; k_dflt (refine' nameX_K ?k1 ?k2 ?k3 ?k4 ?_ ?k7 ?k8 ?k9); (case k7 => rfl); (case k8 => rfl); (case k9 => decide); (case k1 => k_asm); (case k2 => k_asm); (case k3 => k_asm); (case k4 => k_is)))
local macro_rules | `(tactic| walk_at "eval Name") => `(tactic| (k_here; k_dflt (refine' nameX_C ?k1 ?k2 ?k3 ?k4 ?_ ?k7 ?k8 ?k9); (case k7 => rfl); (case k8 => rfl); (case k9 => decide); (case k1 => k_asm); (case k2 => rfl); (case k3 => k_mem); (case k4 => assumption)))
local macro_rules | `(tactic| walk_at "eval Name") => `(tactic| (k_here; k_dflt (refine' nameX_L ?k1 ?k2 ?_ ?k3 ?k4 ?k5); (case k3 => rfl); (case k4 => rfl); (case k5 => decide); (case k1 => k_asm); (case k2 => assumption)))
local macro_rules | `(tactic| walk_at "storeName") => `(tactic| k_extra "my store")
local macro_rules | `(tactic| walk_at "call builtin:len") => `(tactic| (k_here; (refine' list_len ?k1 ?k2 ?k3 ?_); (case k1 => k_asm); (case k2 => k_mem); (case k3 => omega)))
local macro_rules | `(tactic| walk_at "call builtin:str.split") => `(tactic| (k_here; (refine' split_rule ?k1 ?k2 ?k3 ?k4 ?_); (case k1 => k_asm); (case k2 => k_asm); (case k3 => rfl); (case k4 => omega); intro D' rvs' h' tk' hS' F' N' l1'))
local macro_rules | `(tactic| walk_at "subscriptTail") => `(tactic| k_extra "my item")
local macro_rules | `(tactic| walk_at "subscriptTail Name BinOp ref int") => `(tactic| k_extra "my item")
local macro_rules | `(tactic| walk_at "call ref") => `(tactic| k_extra "my call")
section
variable {w : World} {p : Program} {loose : List Str} {mean : ExcName → Option Value} {mg mb : Str → Option Value} {A₀ : Around} {base h₀ : Heap} {outer : List Env} {dp un : Nat} {gd : Option (List Code)} {L a : Addr} {ccd : Value} {m : Str → Option Value} {news : List (Addr × Obj)} {s : Shared} {Q : Flow → Shared → Prop} {E : Value → Shared → Prop}
  {lm : Addr} {mvs : List Value} {nm : Nat} {oc : Obj} {v₀ : Option Value} {rest : List (Addr × Obj)}
theorem append_rule {prog : Program} {A : Around} {E : Value → Shared → Prop} {l : Addr} {vs : List Value} {n : Nat} {x : Value} {led tgt : List (Addr × Obj)} {Q : Value → Shared → Prop} (F : Fr h₀ L s.heap m) (N : News h₀ L s.heap led) (hs : ∀ p ∈ (l, listOf vs.toArray n) :: tgt, p ∈ led) (hne : ∀ p ∈ tgt, p.1 ≠ l) (hl : vs.length ≤ 1000)
    (h : ∀ h', Fr h₀ L h' m → News h₀ L h' ((l, listOf (vs ++ [x]).toArray (n + 1)) :: tgt) → Q .none { s with heap := h' }) : wpAny (model prog w) A (call (.builtin "list.append") [.ref l, x]) Q E s := by
  refine append_K F (sub_news N hs) (.head hne) (fun h' F' N' => h h' F' ?_) (by rw [List.size_toArray, sizeLine_eq]; omega)
  rw [List.push_toArray] at N'
  exact N'
theorem st9 {d : Int} {td tl : Tok} {l : List Nat} (G : Gr w p loose mean mg mb A₀ base outer h₀ dp un) (F : Fr h₀ L s.heap m) (N : News h₀ L s.heap news)
    (hdeed : m (Str.ofString "deed") = some (.int d td)) (hlaid : m (Str.ofString "laid") = some (.str (S l) tl)) (hl : l.length ≤ 40000)
    (ret : ∀ h' t' tk', Fr h₀ L h' (fun y => if y = Str.ofString "text" then some (.str (S (if d = 2 then fixL l else dotsL true (fixL l))) t') else m y) → News h₀ L h' news → Q .next { s with heap := h', toks := tk' }) :
    wpAny (model PySem.Challenge.rw_pk0022_01.row.prog w) (lawA w.params dp un gd L a ccd outer) (exec (lawStmt w.params 9) (lawEnv w.params L a ccd)) Q E s := by
  w_on
  obtain ⟨hB, hX, hT, hd, hu⟩ := G
  revert hX
  k_fill
  intro hX
  k_with_none
  k_with "my call" => (k_here; refine use_fix hl (by k_asm) (by k_asm) (by k_asm) (by k_asm) (by k_asm) rfl (by omega) (by omega) ?_; intro t9 h9 tk9 F9 N9)
  k_with "my call" => (k_here; refine use_quote hl (by k_asm) (by k_asm) (by k_asm) (by k_asm) (by k_asm) rfl (by omega) (by omega) ?_; intro t9 h9 tk9 F9 N9)
  conv in (lawStmt _ _) => whnf
  k_steps
  · rename_i hd1 _ F8 N8
    rw [if_pos hd1] at ret
    exact ret _ _ _ F8 N8
  · rename_i hd1 _ F8 N8
    rw [if_neg hd1] at ret
    exact ret _ _ _ F8 N8
theorem st10 {lc : Addr} {T : Str} {tT : Tok} (G : Gr w p loose mean mg mb A₀ base outer h₀ dp un) (F : Fr h₀ L s.heap m) (N : News h₀ L s.heap ((L + 1, oc) :: (lm, listOf mvs.toArray nm) :: rest)) (off : OwnOff rest [L + 1, lm]) (hlm : L + 1 ≠ lm)
    (hmails : m (Str.ofString "mails") = some (.ref lm)) (htext : m (Str.ofString "text") = some (.str T tT)) (ho : oc.data = .cell (some (.ref lc))) (hl : mvs.length ≤ 7)
    (ret : ∀ h' tk' tm, Fr h₀ L h' m → News h₀ L h' ((L + 1, oc) :: (lm, listOf (mvs ++ [Value.ref tm]).toArray (nm + 1)) :: (tm, pairObj (.ref lc) (.str T tT)) :: rest) → OwnOff ((tm, pairObj (.ref lc) (.str T tT)) :: rest) [L + 1, lm] → (∀ p ∈ rest, p.1 < tm) → Q .next { s with heap := h', toks := tk' }) :
    wpAny (model PySem.Challenge.rw_pk0022_01.row.prog w) (lawA w.params dp un gd L a ccd outer) (exec (lawStmt w.params 10) (lawEnv w.params L a ccd)) Q E s := by
  w_on
  obtain ⟨hB, hX, hT, hd, hu⟩ := G
  revert hX
  k_fill
  intro hX
  k_with_none
  conv in (lawStmt _ _) => whnf
  k_steps
  rename_i tm h9 F9 N9 hlt
  show wpAny _ _ (call (Value.builtin "list.append") [Value.ref lm, Value.ref tm]) _ _ _
  refine append_rule (vs := mvs) (n := nm) (tgt := (L + 1, oc) :: (tm, pairObj (.ref lc) (.str T tT)) :: rest) F9 N9 ?S ?H (by omega) ?_
  case S =>
    intro p9 hp9
    simp only [List.mem_cons] at hp9 ⊢
    rcases hp9 with h | h | h | h <;> simp [h]
  case H =>
    intro p9 hp9
    rcases List.mem_cons.mp hp9 with rfl | hp9
    · exact hlm
    · rcases List.mem_cons.mp hp9 with rfl | hp9
      · exact Nat.ne_of_gt hlt.2.1
      · exact off _ hp9 _ (.tail _ (.head _))
  intro h' F' N'
  refine ret _ _ tm F' (sub_news N' ?_) (off_cons off hlt.1 hlt.2.1) (ktn_ltOf hlt.2.2)
  intro p9 hp9
  simp only [List.mem_cons] at hp9 ⊢
  rcases hp9 with h | h | h | h <;> simp [h]
end
end
end Mine
end

/- part L9 -/
section
open PySem PySem.W PyProof.Rows
set_option Elab.async false
set_option maxRecDepth 100000
set_option maxHeartbeats 8000000
namespace Mine
section
local macro_rules | `(tactic| walk_at "eval Name") => `(tactic| (k_here; k_dflt (refine' nameX_B ?k1 ?k2 ?k3 ?k4 ?k5 ?k6 ?_ ?k7 ?k8 ?k9); (case k7 => rfl); (case k8 => rfl); (case k9 => decide); (case k1 => k_asm); (case k2 => k_asm); (case k3 => k_asm); (case k4 => k_is); (case k5 => boot_by_name); (case k6 => decide)))
local macro_rules | `(tactic| walk_at "eval Name") => `(tactic| (k_here; k_dflt (refine' nameX_K ?k1 ?k2 ?k3 ?k4 ?_ ?k7 ?k8 ?k9); (case k7 => rfl); (case k8 => rfl); (case k9 => decide); (case k1 => k_asm); (case k2 => k_asm); (case k3 => k_asm); (case k4 => k_is)))
local macro_rules | `(tactic| walk_at "eval Name") => `(tactic| (k_here; k_dflt (refine' nameX_C ?k1 ?k2 ?k3 ?k4 ?_ ?k7 ?k8 ?k9); (case k7 => rfl); (case k8 => rfl); (case k9 => decide); (case k1 => k_asm); (case k2 => rfl); (case k3 => k_mem); (case k4 => assumption)))
local macro_rules | `(tactic| walk_at "eval Name") => `(tactic| (k_here; k_dflt (refine' nameX_L ?k1 ?k2 ?_ ?k3 ?k4 ?k5); (case k3 => rfl); (case k4 => rfl); (case k5 => decide); (case k1 => k_asm); (case k2 => assumption)))
local macro_rules | `(tactic| walk_at "storeName") => `(tactic| k_extra "my store")
local macro_rules | `(tactic| walk_at "call builtin:len") => `(tactic| (k_here; (refine' list_len ?k1 ?k2 ?k3 ?_); (case k1 => k_asm); (case k2 => k_mem); (case k3 => omega)))
local macro_rules | `(tactic| walk_at "call builtin:str.split") => `(tactic| (k_here; (refine' split_rule ?k1 ?k2 ?k3 ?k4 ?_); (case k1 => k_asm); (case k2 => k_asm); (case k3 => rfl); (case k4 => omega); intro D' rvs' h' tk' hS' F' N' l1'))
local macro_rules | `(tactic| walk_at "subscriptTail") => `(tactic| k_extra "my item")
local macro_rules | `(tactic| walk_at "subscriptTail Name BinOp ref int") => `(tactic| k_extra "my item")
local macro_rules | `(tactic| walk_at "call ref") => `(tactic| k_extra "my call")
section
variable {w : World} {p : Program} {loose : List Str} {mean : ExcName → Option Value} {mg mb : Str → Option Value} {A₀ : Around} {base h₀ : Heap} {outer : List Env} {dp un : Nat} {gd : Option (List Code)} {L a : Addr} {ccd : Value} {m : Str → Option Value} {news : List (Addr × Obj)} {s : Shared} {Q : Flow → Shared → Prop} {E : Value → Shared → Prop}
  {lm : Addr} {mvs : List Value} {nm : Nat} {oc : Obj} {v₀ : Option Value} {rest : List (Addr × Obj)}
end
section
variable {prog : Program} {w : World} {A : Around} {h₀ : Heap} {L : Addr} {m : Str → Option Value} {env : Env} {elt : Expr} {x : Str} {scope : Scope} {cl : List (Str × Addr)} {s : Shared} {S : List (Addr × Obj) → Prop} {Fin : List Value → List (Addr × Obj) → Prop} {news : List (Addr × Obj)}
theorem crange_rest {n : Nat} {a : Int} (g : Int → Str) (hS : S news)
    (turn : ∀ k t I oI C oC D m₂ zs h tk (E' : Value → Shared → Prop), a ≤ k → k < a + (n : Int) → LCg.NsObj oC m₂ → m₂ x = some (.int k t) → Fr h₀ L h m → News h₀ L h ((I, oI) :: (C, oC) :: (D, LCg.lst zs) :: news) → LCg.Off3 I C D news → ((@Ne Nat I C) ∧ (@Ne Nat I D) ∧ (@Ne Nat C D)) →
      wpAny (model prog w) A (eval elt (compEnvC scope cl C env)) (EltStr h₀ L m s ((I, oI) :: (C, oC) :: (D, LCg.lst zs) :: news) (g k)) E' { s with heap := h, toks := tk })
    (fin : ∀ zs, StrsAre zs ((rangeKs a n).map g) → Fin zs news) : LCg.CompRest prog w A h₀ L m env elt x scope cl s S (fun i v => ∃ t, v = .int (a + (i : Int)) t) Fin n 0 [] news := by
  have hlen := rangeKs_length a n
  have key : ∀ (j i : Nat) (zs : List Value), i + j = n → StrsAre zs (((rangeKs a n).take i).map g) → LCg.CompRest prog w A h₀ L m env elt x scope cl s S (fun i v => ∃ t, v = .int (a + (i : Int)) t) Fin j i zs news := by
    intro j
    induction j with
    | zero =>
      intro i zs hi' hz
      rw [List.take_of_length_le (by omega)] at hz
      exact LCg.CompRest.zero (fin zs hz)
    | succ j ih =>
      intro i zs hi' hz
      refine LCg.CompRest.succ ?_
      intro v I oI C oC D m₂ h tk E' hv hC hx F N off ne
      obtain ⟨t, ev⟩ := hv
      rw [ev] at hx
      refine wpAny_mono (turn (a + (i : Int)) t I oI C oC D m₂ zs h tk E' (by omega) (by omega) hC hx F N off ne) (fun y s₂ hq => ?_) fun _ _ e => e
      obtain ⟨h', tk', t', hy, hs, F', N'⟩ := hq
      refine ⟨h', tk', news, hs, F', N', off, hS, ?_⟩
      rw [hy]
      refine ih (i + 1) _ (by omega) ?_
      have hin : i < n := by omega
      have hk : (rangeKs a n)[i]? = some (a + (i : Int)) := by simp [rangeKs, hin]
      rw [List.take_add_one, hk, Option.toList_some, List.map_append]
      exact kct_snoc hz
  exact key n 0 [] (by omega) (by simp only [List.take_zero, List.map_nil]; exact .nil)
end
section
variable {w : World} {p : Program} {loose : List Str} {mean : ExcName → Option Value} {mg mb : Str → Option Value} {A₀ : Around} {base h₀ : Heap} {outer : List Env} {dp un : Nat} {gd : Option (List Code)} {L a : Addr} {ccd : Value} {m : Str → Option Value} {news : List (Addr × Obj)} {s : Shared} {Q : Flow → Shared → Prop} {E : Value → Shared → Prop}
  {lm : Addr} {mvs : List Value} {nm : Nat} {oc : Obj} {v₀ : Option Value} {rest : List (Addr × Obj)}
local macro_rules | `(tactic| walk_at "exec Assign cons ListComp") => `(tactic| (k_here; k_dflt (refine LCg.Assign_ListComp_U (F₀ := by k_asm) (by rfl) (by with_unfolding_all rfl) (by with_unfolding_all rfl) (by decide) (by rfl) (by decide) (by rfl) (by rfl) (by rfl) ?_)))
local macro_rules | `(tactic| walk_at "CompSrc") => `(tactic| k_extra "my src")
local macro_rules | `(tactic| walk_at "call builtin:len") => `(tactic| k_extra "my len")
theorem st11 {lc : Addr} {vs : List Value} {n : Nat} {c : List (Int × Int)} (G : Gr w p loose mean mg mb A₀ base outer h₀ dp un) (F : Fr h₀ L s.heap m) (N : News h₀ L s.heap ((L + 1, oc) :: (lm, listOf mvs.toArray nm) :: rest)) (off : OwnOff rest [L + 1, lm])
    (ho : oc.data = .cell (some (.ref lc))) (hc : (lc, listOf vs.toArray n) ∈ rest) (hp : PairsIn rest vs c) (hl : c.length ≤ 8) (hkind : ∀ j, 0 ≤ j → j < (c.length : Int) → 0 ≤ kAt c j ∧ kAt c j < 8)
    (ret : ∀ h' tk' lt zs, Fr h₀ L h' (fun y => if y = Str.ofString "told" then some (.ref lt) else m y) → News h₀ L h' ((L + 1, oc) :: (lm, listOf mvs.toArray nm) :: (lt, listOf (List.toArray zs) zs.length) :: rest) → OwnOff ((lt, listOf (List.toArray zs) zs.length) :: rest) [L + 1, lm] → StrsAre zs (rowsS c) → Q .next { s with heap := h', toks := tk' }) :
    wpAny (model PySem.Challenge.rw_pk0022_01.row.prog w) (lawA w.params dp un gd L a ccd outer) (exec (lawStmt w.params 11) (lawEnv w.params L a ccd)) Q E s := by
  w_on
  obtain ⟨hB, hX, hT, hd, hu⟩ := G
  revert hX
  k_fill
  intro hX
  k_with_none
  have hvl := hp.length
  conv in (lawStmt _ _) => whnf
  k_with "my len" => (k_here; refine list_len (by k_asm) (.tail _ (.tail _ hc)) (by omega) ?_; rw [hvl])
  k_with "my src" => (k_here; refine LCg.CompSrc.range (by rfl) (by k_asm) (by k_asm) (by assumption) (small_one (by omega) (by omega) (by omega) (by omega)) (n := c.length) (by rw [rangeSize_nat]; omega) (by rw [PySem.sizeLine_eq]; omega) ?_; intro g9; refine crange_rest (rowV c) True.intro ?_ ?_; intro k9 t9 I9 oI9 C9 oC9 D9 m9 zs9 h9 tk9 E9 hk0 hk1 hC9 hx9 F9 N9 off9 ne9)
  k_with "my call" => (k_here; refine' use_row (c := c) ?ua ?ub ?uc hkind ?ud ?ue ?uf ?ug ?uh ?ui ?uj rfl ?uk ?ul ?_; (case uf => k_asm); (case ug => k_asm); (case uh => k_asm); (case ui => k_asm); (case uj => k_asm); (case ua => omega); (case ub => omega); (case uc => omega); (case ud => ((repeat apply List.mem_cons_of_mem); exact hc)); (case ue => exact hp.mono (by intro p9 hp9; repeat (first | exact hp9 | apply List.mem_cons_of_mem))); (case uk => omega); (case ul => omega); intro t9 h9 tk9 F9 N9)
  k_steps
  · exact ⟨_, _, _, rfl, rfl, by k_asm, by k_asm⟩
  · rename_i zs hz D9 h9 tk9 F9 N9 o9
    exact ret _ _ D9 zs F9 (sub_news N9 led3) (off_cons' off o9.1 o9.2.1) hz
end
end
end Mine
end

/- part L10 -/
section
open PySem PySem.W PyProof.Rows
set_option Elab.async false
set_option maxRecDepth 100000
set_option maxHeartbeats 8000000
namespace Mine
section
local macro_rules | `(tactic| walk_at "eval Name") => `(tactic| (k_here; k_dflt (refine' nameX_B ?k1 ?k2 ?k3 ?k4 ?k5 ?k6 ?_ ?k7 ?k8 ?k9); (case k7 => rfl); (case k8 => rfl); (case k9 => decide); (case k1 => k_asm); (case k2 => k_asm); (case k3 => k_asm); (case k4 => k_is); (case k5 => boot_by_name); (case k6 => decide)))
local macro_rules | `(tactic| walk_at "eval Name") => `(tactic| (k_here; k_dflt (refine' nameX_K ?k1 ?k2 ?k3 ?k4 ?_ ?k7 ?k8 ?k9); (case k7 => rfl); (case k8 => rfl); (case k9 => decide); (case k1 => k_asm); (case k2 => k_asm); (case k3 => k_asm); (case k4 => k_is)))
local macro_rules | `(tactic| walk_at "eval Name") => `(tactic| (k_here; k_dflt (refine' nameX_C ?k1 ?k2 ?k3 ?k4 ?_ ?k7 ?k8 ?k9); (case k7 => rfl); (case k8 => rfl); (case k9 => decide); (case k1 => k_asm); (case k2 => rfl); (case k3 => k_mem); (case k4 => assumption)))
local macro_rules | `(tactic| walk_at "eval Name") => `(tactic| (k_here; k_dflt (refine' nameX_L ?k1 ?k2 ?_ ?k3 ?k4 ?k5); (case k3 => rfl); (case k4 => rfl); (case k5 => decide); (case k1 => k_asm); (case k2 => assumption)))
local macro_rules | `(tactic| walk_at "storeName") => `(tactic| k_extra "my store")
local macro_rules | `(tactic| walk_at "call builtin:len") => `(tactic| (k_here; (refine' list_len ?k1 ?k2 ?k3 ?_); (case k1 => k_asm); (case k2 => k_mem); (case k3 => omega)))
local macro_rules | `(tactic| walk_at "call builtin:str.split") => `(tactic| (k_here; (refine' split_rule ?k1 ?k2 ?k3 ?k4 ?_); (case k1 => k_asm); (case k2 => k_asm); (case k3 => rfl); (case k4 => omega); intro D' rvs' h' tk' hS' F' N' l1'))
local macro_rules | `(tactic| walk_at "subscriptTail") => `(tactic| k_extra "my item")
local macro_rules | `(tactic| walk_at "subscriptTail Name BinOp ref int") => `(tactic| k_extra "my item")
local macro_rules | `(tactic| walk_at "call ref") => `(tactic| k_extra "my call")
section
variable {w : World} {p : Program} {loose : List Str} {mean : ExcName → Option Value} {mg mb : Str → Option Value} {A₀ : Around} {base h₀ : Heap} {outer : List Env} {dp un : Nat} {gd : Option (List Code)} {L a : Addr} {ccd : Value} {m : Str → Option Value} {news : List (Addr × Obj)} {s : Shared} {Q : Flow → Shared → Prop} {E : Value → Shared → Prop}
  {lm : Addr} {mvs : List Value} {nm : Nat} {oc : Obj} {v₀ : Option Value} {rest : List (Addr × Obj)}
local macro_rules | `(tactic| walk_at "call builtin:str.join") => `(tactic| k_extra "my join")
local macro_rules | `(tactic| walk_at "compareOp NotEq str str") => `(tactic| k_extra "my ne")
theorem crlf_eq : Str.ofString "\x0d\n" = crlf := by decide +kernel
theorem ne_same {prog : Program} {A : Around} {E : Value → Shared → Prop} {x y : Str} {t u : Tok} {Q : Value → Shared → Prop} (e : x = y) (h : Q (.bool false) s) : wpAny (model prog w) A (compareOp .NotEq (.str x t) (.str y u)) Q E s := by
  subst e
  refine PyProof.Rows.ne_str ?_
  rw [show (x != x) = false by simp]
  exact h
theorem st12 {c : List (Int × Int)} {tT : Tok} {lt : Addr} {zs : List Value} {n : Nat} (G : Gr w p loose mean mg mb A₀ base outer h₀ dp un) (F : Fr h₀ L s.heap m) (N : News h₀ L s.heap ((L + 1, oc) :: (lm, listOf mvs.toArray nm) :: rest))
    (htext : m (Str.ofString "text") = some (.str (textS c) tT)) (htold : m (Str.ofString "told") = some (.ref lt)) (ht : (lt, listOf zs.toArray n) ∈ rest) (hS : StrsAre zs (rowsS c)) (hsz : ((rowsS c).map (·.length)).sum ≤ 100000) (hn : (rowsS c).length ≤ 100)
    (ret : ∀ tk', Q .next { s with toks := tk' }) :
    wpAny (model PySem.Challenge.rw_pk0022_01.row.prog w) (lawA w.params dp un gd L a ccd outer) (exec (lawStmt w.params 12) (lawEnv w.params L a ccd)) Q E s := by
  w_on
  obtain ⟨hB, hX, hT, hd, hu⟩ := G
  revert hX
  k_fill
  intro hX
  k_with_none
  conv in (lawStmt _ _) => whnf
  k_with "my join" => (k_here; refine join_rule (by k_asm) (.tail _ (.tail _ ht)) hS hsz hn (by decide) ?_; intro t9 k9)
  k_with "my ne" => (k_here; refine ne_same (by unfold textS; rw [crlf_eq]) ?_)
  k_steps
  exact ret _
end
end
end Mine
end

/- part L11 -/
section
open PySem PySem.W PyProof.Rows
set_option Elab.async false
set_option maxRecDepth 100000
set_option maxHeartbeats 8000000
namespace Mine
section
local macro_rules | `(tactic| walk_at "eval Name") => `(tactic| (k_here; k_dflt (refine' nameX_B ?k1 ?k2 ?k3 ?k4 ?k5 ?k6 ?_ ?k7 ?k8 ?k9); (case k7 => rfl); (case k8 => rfl); (case k9 => decide); (case k1 => k_asm); (case k2 => k_asm); (case k3 => k_asm); (case k4 => k_is); (case k5 => boot_by_name); (case k6 => decide)))
local macro_rules | `(tactic| walk_at "eval Name") => `(tactic| (k_here; k_dflt (refine' nameX_K ?k1 ?k2 ?k3 ?k4 ?_ ?k7 ?k8 ?k9); (case k7 => rfl); (case k8 => rfl); (case k9 => decide); (case k1 => k_asm); (case k2 => k_asm); (case k3 => k_asm); (case k4 => k_is)))
local macro_rules | `(tactic| walk_at "eval Name") => `(tactic| (k_here; k_dflt (refine' nameX_C ?k1 ?k2 ?k3 ?k4 ?_ ?k7 ?k8 ?k9); (case k7 => rfl); (case k8 => rfl); (case k9 => decide); (case k1 => k_asm); (case k2 => rfl); (case k3 => k_mem); (case k4 => assumption)))
local macro_rules | `(tactic| walk_at "eval Name") => `(tactic| (k_here; k_dflt (refine' nameX_L ?k1 ?k2 ?_ ?k3 ?k4 ?k5); (case k3 => rfl); (case k4 => rfl); (case k5 => decide); (case k1 => k_asm); (case k2 => assumption)))
local macro_rules | `(tactic| walk_at "storeName") => `(tactic| k_extra "my store")
local macro_rules | `(tactic| walk_at "call builtin:len") => `(tactic| (k_here; (refine' list_len ?k1 ?k2 ?k3 ?_); (case k1 => k_asm); (case k2 => k_mem); (case k3 => omega)))
local macro_rules | `(tactic| walk_at "call builtin:str.split") => `(tactic| (k_here; (refine' split_rule ?k1 ?k2 ?k3 ?k4 ?_); (case k1 => k_asm); (case k2 => k_asm); (case k3 => rfl); (case k4 => omega); intro D' rvs' h' tk' hS' F' N' l1'))
local macro_rules | `(tactic| walk_at "subscriptTail") => `(tactic| k_extra "my item")
local macro_rules | `(tactic| walk_at "subscriptTail Name BinOp ref int") => `(tactic| k_extra "my item")
local macro_rules | `(tactic| walk_at "call ref") => `(tactic| k_extra "my call")
section
variable {w : World} {p : Program} {loose : List Str} {mean : ExcName → Option Value} {mg mb : Str → Option Value} {A₀ : Around} {base h₀ : Heap} {outer : List Env} {dp un : Nat} {gd : Option (List Code)} {L a : Addr} {ccd : Value} {m : Str → Option Value} {news : List (Addr × Obj)} {s : Shared} {Q : Flow → Shared → Prop} {E : Value → Shared → Prop}
  {lm : Addr} {mvs : List Value} {nm : Nat} {oc : Obj} {v₀ : Option Value} {rest : List (Addr × Obj)}
local macro_rules | `(tactic| walk_at "call builtin:str.join") => `(tactic| k_extra "my join")
local macro_rules | `(tactic| walk_at "compareOp NotEq str str") => `(tactic| k_extra "my ne")
local macro_rules | `(tactic| walk_at "subscriptTail Name Name ref int") => `(tactic| k_extra "my item")
local macro_rules | `(tactic| walk_at "call builtin:str.split") => `(tactic| k_extra "my split")
def innerOf : Stmt → List Stmt
  | .For _ _ b _ _ => b
  | _ => []
noncomputable def inStmt (P : Params) (i : Nat) : Stmt := (innerOf (lawStmt P 13)).getD i (.Pass default)
theorem list_last {prog : Program} {A : Around} {E : Value → Shared → Prop} {l : Addr} {value slice : PySem.Expr} {vs : List Value} {n : Nat} {u : Tok} {v : Value} {Q : Value → Shared → Prop} (N : News h₀ L s.heap news) (hm : (l, listOf vs.toArray n) ∈ news)
    (hl : 0 < vs.length) (e : vs[vs.length - 1]? = some v) (h : Q v s)
    (hsub : subscripted slice false (.ref l) (.int (-1) u) = operate [.ref l, .int (-1) u] (getItem (.ref l) (.int (-1) u)) := by with_unfolding_all rfl) :
    wpAny (model prog w) A (subscriptTail value slice (.ref l) (.int (-1) u)) Q E s := by
  have hls : s.heap.IsList l vs.toArray := ⟨_, (N _ hm).1, rfl, n, rfl⟩
  have e1 : ((-1 : Int) + (vs.toArray.size : Nat)).toNat = vs.length - 1 := by rw [List.size_toArray]; omega
  exact tail_any hls.typeIs slot_list_getitem.lookup (wpAny_getItem_list_neg hls (by omega) (by rw [List.size_toArray]; omega) (by decide) (by rw [e1]; simpa using e) h) hsub
theorem strs_first {vs : List Value} {ys : List Str} (h : StrsAre vs ys) (hn : 0 < ys.length) : ∃ t, vs[0]? = some (.str (ys.headD Str.empty) t) := by
  cases h with
  | nil => cases hn
  | cons y t r => exact ⟨t, rfl⟩
theorem strs_last {vs : List Value} {ys : List Str} (h : StrsAre vs ys) (hn : 0 < ys.length) : ∃ t, vs[vs.length - 1]? = some (.str (ys.getLastD Str.empty) t) := by
  have hl : vs.length = ys.length := h.length
  have e : ys[ys.length - 1]? = some (ys.getLastD Str.empty) := by
    rw [List.getElem?_eq_getElem (by omega)]
    cases ys with
    | nil => cases hn
    | cons y r => simp [List.getLastD, List.getLast_eq_getElem]
  obtain ⟨t, ht⟩ := h.get _ _ e
  exact ⟨t, by rw [hl]; exact ht⟩
theorem split_pos (x y : Str) : 0 < (Txt.split x y).length := by
  unfold Txt.split
  split
  · simp
  · split
    · simp
    · rw [StrLaws.partsBetween_eq]
      obtain ⟨p, r, e⟩ := StrLaws.partsFrom_ne x y.length 0 (Builtin.Str.occurrences x y 0 x.length (x.length + 1))
      rw [e]; simp
/-- the name told by a row -/
def headV (y : Str) : Str := (Txt.split y (Str.ofString ":")).headD Str.empty
def nameV (y : Str) : Str := (Txt.split (headV y) (Str.ofString ".")).getLastD Str.empty
theorem part_len {x y z : Str} (h : z ∈ Txt.split x y) : z.length ≤ x.length := part_short h
theorem headV_len (y : Str) : (headV y).length ≤ y.length := by
  refine part_len (y := Str.ofString ":") ?_
  have := split_pos y (Str.ofString ":")
  unfold headV
  cases h : Txt.split y (Str.ofString ":") with
  | nil => rw [h] at this; cases this
  | cons a r => exact List.mem_cons_self
theorem item_head {prog : Program} {A : Around} {E : Value → Shared → Prop} {l : Addr} {value slice : PySem.Expr} {vs : List Value} {n : Nat} {u : Tok} {y : Str} {Q : Value → Shared → Prop} (N : News h₀ L s.heap news) (hm : (l, listOf vs.toArray n) ∈ news) (hS : StrsAre vs (Txt.split y (Str.ofString ":"))) (h : ∀ t, Q (.str (headV y) t) s)
    (hsub : subscripted slice false (.ref l) (.int 0 u) = operate [.ref l, .int 0 u] (getItem (.ref l) (.int 0 u)) := by with_unfolding_all rfl) :
    wpAny (model prog w) A (subscriptTail value slice (.ref l) (.int 0 u)) Q E s := by
  obtain ⟨t, e⟩ := strs_first hS (split_pos _ _)
  exact list_item N hm (by omega) (by omega) e (h t) hsub
theorem item_name {prog : Program} {A : Around} {E : Value → Shared → Prop} {l : Addr} {value slice : PySem.Expr} {vs : List Value} {n : Nat} {u : Tok} {y : Str} {Q : Value → Shared → Prop} (N : News h₀ L s.heap news) (hm : (l, listOf vs.toArray n) ∈ news) (hS : StrsAre vs (Txt.split (headV y) (Str.ofString "."))) (h : ∀ t, Q (.str (nameV y) t) s)
    (hsub : subscripted slice false (.ref l) (.int (-1) u) = operate [.ref l, .int (-1) u] (getItem (.ref l) (.int (-1) u)) := by with_unfolding_all rfl) :
    wpAny (model prog w) A (subscriptTail value slice (.ref l) (.int (-1) u)) Q E s := by
  obtain ⟨t, e⟩ := strs_last hS (split_pos _ _)
  exact list_last N hm (by rw [hS.length]; exact split_pos _ _) e (h t) hsub
theorem in0 {k : Int} {tk₀ : Tok} {lt : Addr} {zs : List Value} {n : Nat} {rows : List Str} (G : Gr w p loose mean mg mb A₀ base outer h₀ dp un) (F : Fr h₀ L s.heap m) (N : News h₀ L s.heap news) (hk : m (Str.ofString "k") = some (.int k tk₀)) (htold : m (Str.ofString "told") = some (.ref lt)) (ht : (lt, listOf zs.toArray n) ∈ news) (hS : StrsAre zs rows)
    (hk0 : 0 ≤ k) (hk1 : k < (rows.length : Int)) (hn : rows.length ≤ 100) (hsz : ∀ y ∈ rows, y.length ≤ 2000)
    (ret : ∀ h' t' tk', Fr h₀ L h' (fun y => if y = Str.ofString "name" then some (.str (nameV (rows.getD k.toNat Str.empty)) t') else m y) → News h₀ L h' news → Q .next { s with heap := h', toks := tk' }) :
    wpAny (model PySem.Challenge.rw_pk0022_01.row.prog w) (lawA w.params dp un gd L a ccd outer) (exec (inStmt w.params 0) (lawEnv w.params L a ccd)) Q E s := by
  w_on
  obtain ⟨hB, hX, hT, hd, hu⟩ := G
  revert hX
  k_fill
  intro hX
  k_with_none
  obtain ⟨y, hy⟩ : ∃ y, y = rows.getD k.toNat Str.empty := ⟨_, rfl⟩
  have hkl : k.toNat < rows.length := by omega
  have hmem : y ∈ rows := by rw [hy, List.getD_eq_getElem?_getD, List.getElem?_eq_getElem hkl]; exact List.getElem_mem hkl
  obtain ⟨ty, hty⟩ := hS.get k.toNat y (by rw [hy, List.getD_eq_getElem?_getD, List.getElem?_eq_getElem hkl]; rfl)
  have hyl := hsz y hmem
  have hhl := headV_len y
  rw [← hy] at ret
  conv in (inStmt _ _) => whnf
  k_with "my item" => (k_here; refine list_item (by k_asm) ht hk0 (by omega) hty ?_ (by with_unfolding_all rfl))
  k_with "my item" => (k_here; (with_reducible show wpAny _ _ (subscriptTail _ _ (Value.ref _) (Value.int (-1) _)) _ _ _); refine item_name (y := y) (by k_asm) (.head _) (by with_reducible assumption) ?_ (by with_unfolding_all rfl); intro t8)
  k_with "my item" => (k_here; (with_reducible show wpAny _ _ (subscriptTail _ _ (Value.ref _) (Value.int 0 _)) _ _ _); refine item_head (y := y) (by k_asm) (.head _) (by with_reducible assumption) ?_ (by with_unfolding_all rfl); intro t8)
  k_with "my split" => (k_here; (refine split_rule (by k_asm) (by k_asm) rfl (by omega) ?_); intro D9 rvs9 h9 tk9 hS9 F9 N9 l19)
  k_steps
  (rename News _ _ _ _ => N8)
  refine ret _ _ _ (by k_asm) (sub_news N8 ?_)
  (intro p9 hp9; repeat (first | exact hp9 | apply List.mem_cons_of_mem))
end
end
end Mine
end

/- part L12 -/
section
open PySem PySem.W PyProof.Rows
set_option Elab.async false
set_option maxRecDepth 100000
set_option maxHeartbeats 8000000
namespace Mine
section
local macro_rules | `(tactic| walk_at "eval Name") => `(tactic| (k_here; k_dflt (refine' nameX_B ?k1 ?k2 ?k3 ?k4 ?k5 ?k6 ?_ ?k7 ?k8 ?k9); (case k7 => rfl); (case k8 => rfl); (case k9 => decide); (case k1 => k_asm); (case k2 => k_asm); (case k3 => k_asm); (case k4 => k_is); (case k5 => boot_by_name); (case k6 => decide)))
local macro_rules | `(tactic| walk_at "eval Name") => `(tactic| (k_here; k_dflt (refine' nameX_K ?k1 ?k2 ?k3 ?k4 ?_ ?k7 ?k8 ?k9); (case k7 => rfl); (case k8 => rfl); (case k9 => decide); (case k1 => k_asm); (case k2 => k_asm); (case k3 => k_asm); (case k4 => k_is)))
local macro_rules | `(tactic| walk_at "eval Name") => `(tactic| (k_here; k_dflt (refine' nameX_C ?k1 ?k2 ?k3 ?k4 ?_ ?k7 ?k8 ?k9); (case k7 => rfl); (case k8 => rfl); (case k9 => decide); (case k1 => k_asm); (case k2 => rfl); (case k3 => k_mem); (case k4 => assumption)))
local macro_rules | `(tactic| walk_at "eval Name") => `(tactic| (k_here; k_dflt (refine' nameX_L ?k1 ?k2 ?_ ?k3 ?k4 ?k5); (case k3 => rfl); (case k4 => rfl); (case k5 => decide); (case k1 => k_asm); (case k2 => assumption)))
local macro_rules | `(tactic| walk_at "storeName") => `(tactic| k_extra "my store")
local macro_rules | `(tactic| walk_at "call builtin:len") => `(tactic| (k_here; (refine' list_len ?k1 ?k2 ?k3 ?_); (case k1 => k_asm); (case k2 => k_mem); (case k3 => omega)))
local macro_rules | `(tactic| walk_at "call builtin:str.split") => `(tactic| (k_here; (refine' split_rule ?k1 ?k2 ?k3 ?k4 ?_); (case k1 => k_asm); (case k2 => k_asm); (case k3 => rfl); (case k4 => omega); intro D' rvs' h' tk' hS' F' N' l1'))
local macro_rules | `(tactic| walk_at "subscriptTail") => `(tactic| k_extra "my item")
local macro_rules | `(tactic| walk_at "subscriptTail Name BinOp ref int") => `(tactic| k_extra "my item")
local macro_rules | `(tactic| walk_at "call ref") => `(tactic| k_extra "my call")
section
variable {w : World} {p : Program} {loose : List Str} {mean : ExcName → Option Value} {mg mb : Str → Option Value} {A₀ : Around} {base h₀ : Heap} {outer : List Env} {dp un : Nat} {gd : Option (List Code)} {L a : Addr} {ccd : Value} {m : Str → Option Value} {news : List (Addr × Obj)} {s : Shared} {Q : Flow → Shared → Prop} {E : Value → Shared → Prop}
  {lm : Addr} {mvs : List Value} {nm : Nat} {oc : Obj} {v₀ : Option Value} {rest : List (Addr × Obj)}
local macro_rules | `(tactic| walk_at "call builtin:str.join") => `(tactic| k_extra "my join")
local macro_rules | `(tactic| walk_at "compareOp NotEq str str") => `(tactic| k_extra "my ne")
local macro_rules | `(tactic| walk_at "subscriptTail Name Name ref int") => `(tactic| k_extra "my item")
local macro_rules | `(tactic| walk_at "call builtin:str.split") => `(tactic| k_extra "my split")
local macro_rules | `(tactic| walk_at "call builtin:len") => `(tactic| k_extra "my len")
theorem slice_from {vs : List Value} {x : Int} (h : 0 ≤ x) : slicePick vs.toArray (some x) none none = (vs.drop x.toNat).toArray := by
  obtain ⟨n, rfl⟩ := Int.eq_ofNat_of_zero_le h
  rw [Int.toNat_natCast]
  rcases Nat.le_total n vs.length with hn | hn
  · rw [kmk_pick_nat (a := n) (b := vs.length) _ (by
      unfold sliceBounds
      simp
      omega)]
    exact congrArg List.toArray (List.take_of_length_le (by rw [List.length_drop]; exact Nat.le_refl _))
  · rw [kmk_pick_nat (a := vs.length) (b := vs.length) _ (by
      unfold sliceBounds
      simp
      omega)]
    rw [Nat.sub_self, List.take_zero, List.drop_eq_nil_of_le hn]
theorem same_name {nme : Str} {tN : Tok} (hname : m (Str.ofString "name") = some (.str nme tN)) : (fun y => if y = Str.ofString "name" then some (Value.str nme tN) else m y) = m := by
  funext y
  by_cases hy : y = Str.ofString "name"
  · rw [if_pos hy, hy, hname]
  · rw [if_neg hy]
theorem sum_drop : ∀ (l : List Str) (k : Nat), ((l.drop k).map (·.length)).sum ≤ (l.map (·.length)).sum
  | [], k => by simp
  | y :: l, 0 => Nat.le_refl _
  | y :: l, k + 1 => by
    have := sum_drop l k
    simp only [List.drop_succ_cons, List.map_cons, List.sum_cons]
    omega
theorem in1 {k : Int} {tk₀ tN : Tok} {lt : Addr} {zs : List Value} {n : Nat} {rows : List Str} {nme : Str} (G : Gr w p loose mean mg mb A₀ base outer h₀ dp un) (F : Fr h₀ L s.heap m) (N : News h₀ L s.heap news) (hk : m (Str.ofString "k") = some (.int k tk₀)) (htold : m (Str.ofString "told") = some (.ref lt)) (hname : m (Str.ofString "name") = some (.str nme tN)) (ht : (lt, listOf zs.toArray n) ∈ news) (hS : StrsAre zs rows)
    (hk0 : 0 ≤ k) (hk1 : k < (rows.length : Int)) (hn : rows.length ≤ 100) (hsz : ∀ y ∈ rows, y.length ≤ 2000) (hnl : nme.length ≤ 2000)
    (ret : ∀ h' t' tk', Fr h₀ L h' (fun y => if y = Str.ofString "name" then some (.str (if Txt.contains (rows.getD k.toNat Str.empty) (Str.ofString ":") = false ∧ k + 1 < (rows.length : Int) then nme ++ Str.ofString "\x0d" else nme) t') else m y) → News h₀ L h' news → Q .next { s with heap := h', toks := tk' }) :
    wpAny (model PySem.Challenge.rw_pk0022_01.row.prog w) (lawA w.params dp un gd L a ccd outer) (exec (inStmt w.params 1) (lawEnv w.params L a ccd)) Q E s := by
  w_on
  obtain ⟨hB, hX, hT, hd, hu⟩ := G
  revert hX
  k_fill
  intro hX
  k_with_none
  obtain ⟨y, hy⟩ : ∃ y, y = rows.getD k.toNat Str.empty := ⟨_, rfl⟩
  have hkl : k.toNat < rows.length := by omega
  have hmem : y ∈ rows := by rw [hy, List.getD_eq_getElem?_getD, List.getElem?_eq_getElem hkl]; exact List.getElem_mem hkl
  obtain ⟨ty, hty⟩ := hS.get k.toNat y (by rw [hy, List.getD_eq_getElem?_getD, List.getElem?_eq_getElem hkl]; rfl)
  have hyl := hsz y hmem
  have hzl := hS.length
  rw [← hy] at ret
  conv in (inStmt _ _) => whnf
  k_with "my item" => (k_here; refine list_item (by k_asm) ht hk0 (by omega) hty ?_ (by with_unfolding_all rfl))
  k_with "my len" => (k_here; refine list_len (by k_asm) ht (by omega) ?_; rw [hzl])
  k_steps
  · rename_i hc1 hc2 _ _ _ _ F8 N8
    rw [if_pos ⟨by unfold Txt.contains; rw [hc1]; rfl, hc2⟩] at ret
    exact ret _ _ _ F8 N8
  · rename_i hc1 hc2
    rw [if_neg (fun q => hc2 q.2)] at ret
    exact ret _ _ _ (by rw [same_name hname]; k_asm) (by k_asm)
  · rename_i hc1
    rw [if_neg (fun q => by have q1 := q.1; unfold Txt.contains at q1; rw [hc1] at q1; cases q1)] at ret
    exact ret _ _ _ (by rw [same_name hname]; k_asm) (by k_asm)
theorem in2 {k : Int} {tk₀ tN tT : Tok} {rows : List Str} {text nme : Str} (G : Gr w p loose mean mg mb A₀ base outer h₀ dp un) (F : Fr h₀ L s.heap m) (N : News h₀ L s.heap news) (hk : m (Str.ofString "k") = some (.int k tk₀)) (htext : m (Str.ofString "text") = some (.str text tT)) (hname : m (Str.ofString "name") = some (.str nme tN))
    (hk0 : 0 ≤ k) (hk1 : k < (rows.length : Int)) (hn : rows.length ≤ 100) (hsz : (rows.map (·.length)).sum ≤ 20000) (htl : text.length ≤ 5000) (hsp : Txt.split text (Str.ofString "\x0d\n") = rows) (hst : stripV (Str.join (Str.ofString "\x0d\n") (rows.drop k.toNat)) = nme)
    (ret : ∀ h' tk', Fr h₀ L h' m → News h₀ L h' news → Q .next { s with heap := h', toks := tk' }) :
    wpAny (model PySem.Challenge.rw_pk0022_01.row.prog w) (lawA w.params dp un gd L a ccd outer) (exec (inStmt w.params 2) (lawEnv w.params L a ccd)) Q E s := by
  w_on
  obtain ⟨hB, hX, hT, hd, hu⟩ := G
  revert hX
  k_fill
  intro hX
  k_with_none
  conv in (inStmt _ _) => whnf
  k_with "my split" => (k_here; (refine split_rule (by k_asm) (by k_asm) rfl (by omega) ?_); intro D9 rvs9 h9 tk9 hS9 F9 N9 l19; rw [hsp] at hS9; have hl9 := hS9.length)
  k_steps
  rename_i h8 F8 N8
  rw [slice_from hk0] at N8
  have hdl : (rows.drop k.toNat).length ≤ rows.length := by rw [List.length_drop]; omega
  have hds := sum_drop rows k.toNat
  have hjl := StrLaws.join_length_le (Str.ofString "\x0d\n") (rows.drop k.toNat)
  have hjm : (rows.drop k.toNat).length * (Str.ofString "\x0d\n").length ≤ 100 * 2 := Nat.mul_le_mul (by omega) (by decide)
  refine join_rule N8 (.head _) (StrsAre.drop' hS9 _) (by omega) (by omega) (by decide) ?_
  intro t7 k7
  k_with "my call" => (k_here; refine use_strip (by omega) (by k_asm) (by k_asm) (by k_asm) (by k_asm) (by k_asm) rfl (by omega) (by omega) ?_; intro t9 h9 tk9 F9 N9)
  k_with "my ne" => (k_here; refine ne_same hst ?_)
  k_steps
  (rename News _ _ _ _ => N6)
  refine ret _ _ (by k_asm) (sub_news N6 ?_)
  (intro p9 hp9; repeat (first | exact hp9 | apply List.mem_cons_of_mem))
end
end
end Mine
end

/- part L13 -/
section
open PySem PySem.W PyProof.Rows
set_option Elab.async false
set_option maxRecDepth 100000
set_option maxHeartbeats 8000000
namespace Mine
section
local macro_rules | `(tactic| walk_at "eval Name") => `(tactic| (k_here; k_dflt (refine' nameX_B ?k1 ?k2 ?k3 ?k4 ?k5 ?k6 ?_ ?k7 ?k8 ?k9); (case k7 => rfl); (case k8 => rfl); (case k9 => decide); (case k1 => k_asm); (case k2 => k_asm); (case k3 => k_asm); (case k4 => k_is); (case k5 => boot_by_name); (case k6 => decide)))
local macro_rules | `(tactic| walk_at "eval Name") => `(tactic| (k_here; k_dflt (refine' nameX_K ?k1 ?k2 ?k3 ?k4 ?_ ?k7 ?k8 ?k9); (case k7 => rfl); (case k8 => rfl); (case k9 => decide); (case k1 => k_asm); (case k2 => k_asm); (case k3 => k_asm); (case k4 => k_is)))
local macro_rules | `(tactic| walk_at "eval Name") => `(tactic| (k_here; k_dflt (refine' nameX_C ?k1 ?k2 ?k3 ?k4 ?_ ?k7 ?k8 ?k9); (case k7 => rfl); (case k8 => rfl); (case k9 => decide); (case k1 => k_asm); (case k2 => rfl); (case k3 => k_mem); (case k4 => assumption)))
local macro_rules | `(tactic| walk_at "eval Name") => `(tactic| (k_here; k_dflt (refine' nameX_L ?k1 ?k2 ?_ ?k3 ?k4 ?k5); (case k3 => rfl); (case k4 => rfl); (case k5 => decide); (case k1 => k_asm); (case k2 => assumption)))
local macro_rules | `(tactic| walk_at "storeName") => `(tactic| k_extra "my store")
local macro_rules | `(tactic| walk_at "call builtin:len") => `(tactic| (k_here; (refine' list_len ?k1 ?k2 ?k3 ?_); (case k1 => k_asm); (case k2 => k_mem); (case k3 => omega)))
local macro_rules | `(tactic| walk_at "call builtin:str.split") => `(tactic| (k_here; (refine' split_rule ?k1 ?k2 ?k3 ?k4 ?_); (case k1 => k_asm); (case k2 => k_asm); (case k3 => rfl); (case k4 => omega); intro D' rvs' h' tk' hS' F' N' l1'))
local macro_rules | `(tactic| walk_at "subscriptTail") => `(tactic| k_extra "my item")
local macro_rules | `(tactic| walk_at "subscriptTail Name BinOp ref int") => `(tactic| k_extra "my item")
local macro_rules | `(tactic| walk_at "call ref") => `(tactic| k_extra "my call")
section
variable {w : World} {p : Program} {loose : List Str} {mean : ExcName → Option Value} {mg mb : Str → Option Value} {A₀ : Around} {base h₀ : Heap} {outer : List Env} {dp un : Nat} {gd : Option (List Code)} {L a : Addr} {ccd : Value} {m : Str → Option Value} {news : List (Addr × Obj)} {s : Shared} {Q : Flow → Shared → Prop} {E : Value → Shared → Prop}
  {lm : Addr} {mvs : List Value} {nm : Nat} {oc : Obj} {v₀ : Option Value} {rest : List (Addr × Obj)}
local macro_rules | `(tactic| walk_at "pyIter ref") => `(tactic| k_extra "my iter")
local macro_rules | `(tactic| walk_at "call builtin:len") => `(tactic| k_extra "my len")
end
section
variable {prog : Program} {w : World} {A : Around} {E : Value → Shared → Prop} {s : Shared} {env : Env} {h₀ : Heap} {x : Str} {body : List Stmt} {Q : Flow → Shared → Prop}
theorem range_loop {r : Addr} {b₀ : Int} {t₀ u₀ v₀ : Tok} {n : Nat} {m₀ : Str → Option Value} {news : List (Addr × Obj)} (J : Nat → (Str → Option Value) → List (Addr × Obj) → Prop)
    (hh : A.handled = none) (hr : IsRange s.heap r 0 b₀ 1 t₀ u₀ v₀) (hsmall : Builtin.Range.small 0 b₀ 1 = true) (hsz : Builtin.Range.rangeSize 0 b₀ 1 = (n : Int)) (F : Fr h₀ env.locals s.heap m₀) (N : News h₀ env.locals s.heap news) (hj : J 0 m₀ news)
    (turn : ∀ (i : Nat) t m₁ nx h tk own, i < n → OwnOff own (nx.map (·.1)) → J i m₁ nx → Fr h₀ env.locals h (fun y => if y = x then some (.int (i : Int) t) else m₁ y) → News h₀ env.locals h (nx ++ own) →
      wpAny (model prog w) A (execs body env) (InvPostG h₀ env.locals (J (i + 1)) own { s with heap := h, toks := tk } Q) E { s with heap := h, toks := tk })
    (done : ∀ m₁ nx h tk, J n m₁ nx → Fr h₀ env.locals h m₁ → News h₀ env.locals h nx → Q .next { s with heap := h, toks := tk }) :
    wpAny (model prog w) A (pyIter (.ref r)) (fun it s₂ => LoopAtV prog w A h₀ env x body Q E it s₂) E s := by
  refine wpAny_pyIter_range hr hsmall ?_
  have W : Walks prog w A s.heap.objs.size [s.heap.objs.size] [s.heap.objs.size] n (fun i v => i < n ∧ ∃ t, v = .int (0 + i * 1) t)
      (fun i h => IsRangeIter h s.heap.objs.size (0 + (i : Nat) * 1) ((n : Int) - (i : Nat)) 1) := (Walks.range hh _ 0 1 n).bound
  refine kdr_loop J W (fun _ h => h) (fun _ h => h) ?_ ?_ ?_ ?_ (by show IsRangeIter _ _ _ _ _; rw [hsz]; simpa using Heap.get?_push_size _ rfl) (F.push _) (fun p hp => ⟨Heap.get?_push_of_some _ (N p hp).1, (N p hp).2⟩) hj ?_ ?_
  · intro i h hi b hb
    rw [List.mem_singleton.mp hb]
    exact ⟨_, hi⟩
  · intro hm
    exact absurd F.ns.lt ((List.mem_singleton.mp hm) ▸ Nat.lt_irrefl _)
  · intro b hb
    rw [List.mem_singleton.mp hb]
    exact next_is_new F
  · intro p hp hI
    exact absurd (Heap.lt_size (N p hp).1) ((List.mem_singleton.mp hI) ▸ Nat.lt_irrefl _)
  · rintro i v m₁ nx h tk own hi ⟨_, t, rfl⟩ hoff hJ F₁ N₁
    have e1 : (0 : Int) + (i : Int) * 1 = (i : Int) := by omega
    rw [e1] at F₁
    exact turn i t m₁ nx h tk own hi hoff hJ F₁ N₁
  · intro m₁ nx h tk hJ F₁ N₁
    exact done m₁ nx h tk hJ F₁ N₁
end
/-- the name that the law asks of row k -/
def askName (rows : List Str) (k : Nat) : Str := if Txt.contains (rows.getD k Str.empty) (Str.ofString ":") = false ∧ (k : Int) + 1 < (rows.length : Int) then nameV (rows.getD k Str.empty) ++ Str.ofString "\x0d" else nameV (rows.getD k Str.empty)
theorem split_mem_len {x y z : Str} (h : z ∈ Txt.split x y) : z.length ≤ x.length := part_short h
theorem nameV_len (y : Str) : (nameV y).length ≤ y.length := by
  have h1 := headV_len y
  have h2 : (nameV y).length ≤ (headV y).length := by
    refine split_mem_len (y := Str.ofString ".") ?_
    have := split_pos (headV y) (Str.ofString ".")
    unfold nameV
    cases h : Txt.split (headV y) (Str.ofString ".") with
    | nil => rw [h] at this; cases this
    | cons a r => simp [List.getLastD]
  omega
section
variable {w : World} {p : Program} {loose : List Str} {mean : ExcName → Option Value} {mg mb : Str → Option Value} {A₀ : Around} {base h₀ : Heap} {outer : List Env} {dp un : Nat} {gd : Option (List Code)} {L a : Addr} {ccd : Value} {m : Str → Option Value} {news : List (Addr × Obj)} {s : Shared} {Q : Flow → Shared → Prop} {E : Value → Shared → Prop}
def RangeMid (h₀ : Heap) (L : Addr) (m : Str → Option Value) (news : List (Addr × Obj)) (s : Shared) (n : Nat) (xv : Value) (s₁ : Shared) : Prop := ∃ r h tk t u v, xv = .ref r ∧ s₁ = { s with heap := h, toks := tk } ∧ IsRange h r 0 (n : Int) 1 t u v ∧ Fr h₀ L h m ∧ News h₀ L h news
theorem st13 {lt : Addr} {zs : List Value} {n : Nat} {rows : List Str} {text : Str} {tT : Tok} (G : Gr w p loose mean mg mb A₀ base outer h₀ dp un) (F : Fr h₀ L s.heap m) (N : News h₀ L s.heap news) (htold : m (Str.ofString "told") = some (.ref lt)) (htext : m (Str.ofString "text") = some (.str text tT)) (ht : (lt, listOf zs.toArray n) ∈ news) (hS : StrsAre zs rows)
    (hn : rows.length ≤ 100) (hsz : ∀ y ∈ rows, y.length ≤ 2000) (hsum : (rows.map (·.length)).sum ≤ 20000) (htl : text.length ≤ 5000) (hsp : Txt.split text (Str.ofString "\x0d\n") = rows) (hst : ∀ k, k < rows.length → stripV (Str.join (Str.ofString "\x0d\n") (rows.drop k)) = askName rows k)
    (ret : ∀ h' tk' m', Fr h₀ L h' m' → News h₀ L h' news → (∀ y, y ≠ Str.ofString "k" → y ≠ Str.ofString "name" → m' y = m y) → Q .next { s with heap := h', toks := tk' }) :
    wpAny (model PySem.Challenge.rw_pk0022_01.row.prog w) (lawA w.params dp un gd L a ccd outer) (exec (lawStmt w.params 13) (lawEnv w.params L a ccd)) Q E s := by
  refine wpAny_mono (Q := Q) (E := fun _ _ => False) ?_ (fun _ _ h => h) (fun _ _ h => h.elim)
  w_on
  obtain ⟨hB, hX, hT, hd, hu⟩ := id G
  revert hX
  k_fill
  intro hX
  k_with_none
  have hzl := hS.length
  conv in (lawStmt _ _) => whnf
  k_with "my len" => (k_here; refine list_len (by k_asm) ht (by omega) ?_; rw [hzl])
  with_unfolding_all refine' For_invVF F ?k1 ?k2 ?_ ?k3 PassesOwn.never
  case k1 => exact rfl
  case k2 => exact rfl
  case k3 => intro _; rfl
  refine wpAny_mono (E := fun _ _ => False) (Q := RangeMid h₀ L m news s zs.length) ?first ?second (fun _ _ h => h)
  case first =>
    k_steps
    exact ⟨_, _, _, _, _, _, rfl, rfl, by assumption, by k_asm, by k_asm⟩
  case second =>
    rintro xv s₁ ⟨r, h, tk, t₁, u₁, v₁, rfl, rfl, hr, F₁, N₁⟩
    refine range_loop (n := zs.length) (fun _ m₁ nx => nx = news ∧ ∀ y, y ≠ Str.ofString "k" → y ≠ Str.ofString "name" → m₁ y = m y) (by rfl) hr (small_one (by omega) (by omega) (by omega) (by omega)) (by rw [rangeSize_nat]; omega) F₁ N₁ ⟨rfl, fun _ _ _ => rfl⟩ ?_ ?_
    · rintro i t m₁ nx h₂ tk₂ own hi hoff ⟨rfl, hm₁⟩ F₂ N₂
      have hk0 : (0 : Int) ≤ (i : Int) := by omega
      have hk1 : (i : Int) < (rows.length : Int) := by omega
      have ht' : (lt, listOf zs.toArray n) ∈ nx ++ own := List.mem_append_left _ ht
      have e1 : m₁ (Str.ofString "told") = some (.ref lt) := (hm₁ _ (by decide) (by decide)).trans htold
      have e2 : m₁ (Str.ofString "text") = some (.str text tT) := (hm₁ _ (by decide) (by decide)).trans htext
      have hyl : (nameV (rows.getD i Str.empty)).length ≤ 2000 := by
        refine Nat.le_trans (nameV_len _) ?_
        rw [List.getD_eq_getElem?_getD, List.getElem?_eq_getElem (by omega)]
        exact hsz _ (List.getElem_mem _)
      refine wpAny_execs_cons (in0 (k := (i : Int)) (lt := lt) (zs := zs) (n := n) (rows := rows) G F₂ N₂ rfl e1 ht' hS hk0 hk1 hn hsz ?_)
      intro h₃ t₃ tk₃ F₃ N₃
      refine wpAny_execs_cons (in1 (k := (i : Int)) (lt := lt) (zs := zs) (n := n) (rows := rows) G F₃ N₃ rfl e1 rfl ht' hS hk0 hk1 hn hsz hyl ?_)
      intro h₄ t₄ tk₄ F₄ N₄
      refine wpAny_execs_cons (in2 (k := (i : Int)) (rows := rows) (text := text) G F₄ N₄ rfl e2 rfl hk0 hk1 hn hsum htl hsp (hst i (by omega)) ?_)
      intro h₅ tk₅ F₅ N₅
      refine wpAny_execs_nil ?_
      refine ⟨h₅, tk₅, _, nx ++ own, nx, rfl, F₅, N₅, fun p hp => List.mem_append_left _ hp, fun p hp => List.mem_append_right _ hp, hoff, rfl, ?_⟩
      intro y hy1 hy2
      show (if y = Str.ofString "name" then _ else (if y = Str.ofString "name" then _ else (if y = Str.ofString "k" then _ else m₁ y))) = m y
      rw [if_neg hy2, if_neg hy2, if_neg hy1]
      exact hm₁ y hy1 hy2
    · rintro m₁ nx h₂ tk₂ ⟨rfl, hm₁⟩ F₂ N₂
      exact ret _ _ _ F₂ N₂ hm₁
end
end
end Mine
end

/- part L14 -/
section
open PySem PySem.W PyProof.Rows
set_option Elab.async false
set_option maxRecDepth 100000
set_option maxHeartbeats 8000000
namespace Mine
section
/-- the rows that are laid, and what the deed makes of them -/
def rows1 (c : List (Int × Int)) (d : Int) : List Str := if d = 1 then (rowsS c).map commentV else rowsS c
def laidL (c : List (Int × Int)) (d κ x : Int) : List Nat := (Str.join (sepS x) (rows1 c d ++ [S (bareL κ)])).cps.toList
def sentL (c : List (Int × Int)) (d κ x : Int) : List Nat := if d = 2 then fixL (laidL c d κ x) else dotsL true (fixL (laidL c d κ x))
/-- all that the walk asks of the texts -/
structure PureOk (c : List (Int × Int)) (d κ x : Int) : Prop where
  rlen : (rowsS c).length ≤ 7
  each : ∀ y ∈ rowsS c, y.length ≤ 2000
  sum : ((rows1 c d).map (·.length)).sum ≤ 20000
  laid : (laidL c d κ x).length ≤ 40000
  text : S (sentL c d κ x) = textS (c ++ [(d, κ)])
  ok : ChainOk (c ++ [(d, κ)])
  rlen' : (rowsS (c ++ [(d, κ)])).length ≤ 100
  each' : ∀ y ∈ rowsS (c ++ [(d, κ)]), y.length ≤ 2000
  sum' : ((rowsS (c ++ [(d, κ)])).map (·.length)).sum ≤ 20000
  name : ∀ k, k < (rowsS (c ++ [(d, κ)])).length → stripV (Str.join (Str.ofString "\x0d\n") ((rowsS (c ++ [(d, κ)])).drop k)) = askName (rowsS (c ++ [(d, κ)])) k
def AllPure : Prop := ∀ (c : List (Int × Int)) (d κ x : Int), (c = [] ∨ ChainOk c) → c.length ≤ 6 → (d = 0 ∨ d = 1 ∨ d = 2) → 0 ≤ κ → κ < 8 → PureOk c d κ x
theorem kAt_ok {c : List (Int × Int)} (h : ∀ x ∈ c, 0 ≤ x.2 ∧ x.2 < 8) : ∀ j, 0 ≤ j → j < (c.length : Int) → 0 ≤ kAt c j ∧ kAt c j < 8 := by
  intro j h0 h1
  unfold kAt
  rw [List.getD_eq_getElem?_getD, List.getElem?_eq_getElem (by omega)]
  exact h _ (List.getElem_mem _)
theorem fmod_bounds (x : Int) {b : Int} (hb : 0 < b) : 0 ≤ Int.fmod x b ∧ Int.fmod x b < b := ⟨Int.fmod_nonneg_of_pos x hb, Int.fmod_lt_of_pos x hb⟩
variable {w : World} {p : Program} {loose : List Str} {mean : ExcName → Option Value} {mg mb : Str → Option Value} {A₀ : Around} {base h₀ : Heap} {outer : List Env} {dp un : Nat} {gd : Option (List Code)} {L a : Addr} {ccd : Value} {m : Str → Option Value} {s : Shared} {Q : Flow → Shared → Prop} {E : Value → Shared → Prop}
  {lm : Addr} {mvs : List Value} {nm : Nat} {oc : Obj} {v₀ : Option Value} {rest : List (Addr × Obj)}
theorem law_turn (HP : AllPure) {ms : List (List (Int × Int))} {x : Int} {tx : Tok} {tl : List Stmt} (G : Gr w p loose mean mg mb A₀ base outer h₀ dp un) (F : Fr h₀ L s.heap m) (N : News h₀ L s.heap ((L + 1, oc) :: (lm, listOf mvs.toArray nm) :: rest)) (ho : oc.data = .cell v₀) (hlm : L + 1 ≠ lm) (off : OwnOff rest [L + 1, lm])
    (hx : m (Str.ofString "x") = some (.int x tx)) (hmails : m (Str.ofString "mails") = some (.ref lm)) {rest₀ : List (Addr × Obj)} (hs₀ : ∀ p ∈ rest₀, p ∈ rest) (M : MailsIn rest₀ mvs ms) (hlen : mvs.length ≤ 6) (hcl : ∀ c ∈ ms, c.length ≤ mvs.length)
    (ret : ∀ h' tk' m' oc' v' tm lc tp vs c d κ td tκ tT, Fr h₀ L h' m' → News h₀ L h' ((L + 1, oc') :: (lm, listOf (mvs ++ [Value.ref tm]).toArray (nm + 1)) :: (tm, pairObj (.ref lc) (.str (textS c) tT)) :: (lc, listOf (List.toArray (vs ++ [Value.ref tp])) 0) :: (tp, pairObj (.int d td) (.int κ tκ)) :: rest) →
      m' (Str.ofString "mails") = some (.ref lm) → oc'.data = .cell v' → OwnOff [(tm, pairObj (.ref lc) (.str (textS c) tT)), (lc, listOf (List.toArray (vs ++ [Value.ref tp])) 0), (tp, pairObj (.int d td) (.int κ tκ))] [L + 1, lm] → (∀ p ∈ rest, p.1 < tp ∧ p.1 < lc ∧ p.1 < tm) →
      PairsIn ((tp, pairObj (.int d td) (.int κ tκ)) :: rest₀) (vs ++ [Value.ref tp]) c → ChainOk c → c.length ≤ mvs.length + 1 →
      wpAny (model PySem.Challenge.rw_pk0022_01.row.prog w) (lawA w.params dp un gd L a ccd outer) (execs tl (lawEnv w.params L a ccd)) Q E { s with heap := h', toks := tk' }) :
    wpAny (model PySem.Challenge.rw_pk0022_01.row.prog w) (lawA w.params dp un gd L a ccd outer) (execs (lawStmt w.params 0 :: lawStmt w.params 1 :: lawStmt w.params 2 :: lawStmt w.params 3 :: lawStmt w.params 4 :: lawStmt w.params 5 :: lawStmt w.params 6 :: lawStmt w.params 7 :: lawStmt w.params 8 :: lawStmt w.params 9 :: lawStmt w.params 10 :: lawStmt w.params 11 :: lawStmt w.params 12 :: lawStmt w.params 13 :: tl) (lawEnv w.params L a ccd)) Q E s := by
  have hMl := M.length
  refine wpAny_execs_cons (st0 G F N hx ?_)
  intro h0' t0 tk0 F0 N0
  refine wpAny_execs_cons (st1 G F0 N0 (x := x) hx ?_)
  intro h1 t1 tk1 F1 N1
  refine wpAny_execs_cons (st2 G F1 N1 (x := x) hx hmails (by omega) ?_)
  intro h2 t2 tk2 F2 N2
  refine wpAny_execs_cons (st3 G F2 N2 ho hlm off ?_)
  intro h3 tk3 oc3 l1 F3 N3 ho3 off3 lt3
  refine wpAny_execs_cons (st4 G F3 N3 off3 ?_)
  intro h4 tk4 l2 F4 N4 off4 lt4
  refine wpAny_execs_cons (st5 (x := x) (y := x) G F4 N4 off4 hlm (fun p hp => .tail _ (.tail _ (hs₀ p hp))) M (by omega) (b := Int.fmod (Int.fdiv x 72) ((mvs.length : Int) + 1)) rfl (fmod_bounds _ (by omega)).1 hmails ho3 (.tail _ (.head _)) (.head _) rfl ?_)
  intro h5 tk5 oc5 lc0 vs n5 c lr rvs rest5 F5 N5 off5 sub5 ho5 hc5 hp5 hr5 hS5 hcase
  have hcl6 : c.length ≤ mvs.length := by
    rcases hcase with e | e
    · rw [e]; exact Nat.zero_le _
    · exact hcl c e.2
  have hd3 := fmod_bounds x (b := 3) (by omega)
  have hk8 := fmod_bounds (Int.fdiv x 3) (b := 8) (by omega)
  have HQ := HP c (Int.fmod x 3) (Int.fmod (Int.fdiv x 3) 8) x (hcase.imp id fun e => e.1) (by omega) (by omega) hk8.1 hk8.2
  have hrl := hS5.length
  refine wpAny_execs_cons (st6 (d := Int.fmod x 3) G F5 N5 off5 rfl rfl hr5 hS5 (by rw [hrl]; exact HQ.rlen) HQ.each ?_)
  intro h6 tk6 lr6 rvs6 n6 rest6 F6 N6 off6 sub6 hr6 hS6
  have hc6 := sub6 _ (sub5 _ hc5)
  have hp6 : PairsIn rest6 vs c := hp5.mono fun p hp => sub6 p (sub5 p (.tail _ (.tail _ (hs₀ p hp))))
  refine wpAny_execs_cons (st7 (d := Int.fmod x 3) (κ := Int.fmod (Int.fdiv x 3) 8) G F6 N6 off6 hlm rfl rfl ho5 hc6 hp6 (by omega) ?_)
  intro h7 tk7 oc7 lc tp F7 N7 off7 ho7 lt7 lt7'
  refine wpAny_execs_cons (st8 (x := x) (κ := Int.fmod (Int.fdiv x 3) 8) (rows := rows1 c (Int.fmod x 3)) G F7 N7 hx rfl hk8.1 hk8.2 rfl (.tail _ (.tail _ hr6)) hS6 ?_ HQ.sum ?_)
  · rw [hS6.length]
    have := HQ.rlen
    split <;> simp <;> omega
  intro h8 t8 tk8 F8 N8
  refine wpAny_execs_cons (st9 (d := Int.fmod x 3) (l := laidL c (Int.fmod x 3) (Int.fmod (Int.fdiv x 3) 8) x) G F8 N8 rfl (by show some (Value.str _ t8) = _; unfold laidL; rw [S_of]) HQ.laid ?_)
  intro h9 t9 tk9 F9 N9
  refine wpAny_execs_cons (st10 (T := S (sentL c (Int.fmod x 3) (Int.fmod (Int.fdiv x 3) 8) x)) G F9 N9 off7 hlm hmails rfl ho7 (by omega) ?_)
  intro h10 tk10 tm F10 N10 off10 lt10
  rw [HQ.text] at N10 off10
  have hp10 : PairsIn ((tm, pairObj (.ref lc) (.str (textS (c ++ [(Int.fmod x 3, Int.fmod (Int.fdiv x 3) 8)])) t9)) :: (lc, listOf (vs ++ [Value.ref tp]).toArray 0) :: (tp, pairObj (.int (Int.fmod x 3) t0) (.int (Int.fmod (Int.fdiv x 3) 8) t1)) :: rest6) (vs ++ [Value.ref tp]) (c ++ [(Int.fmod x 3, Int.fmod (Int.fdiv x 3) 8)]) :=
    (hp6.mono fun p hp => .tail _ (.tail _ (.tail _ hp))).append (.cons (.tail _ (.tail _ (.head _))) .nil)
  have hlen' : (c ++ [(Int.fmod x 3, Int.fmod (Int.fdiv x 3) 8)]).length = c.length + 1 := by simp
  refine wpAny_execs_cons (st11 (lc := lc) (vs := vs ++ [Value.ref tp]) (n := 0) (c := c ++ [(Int.fmod x 3, Int.fmod (Int.fdiv x 3) 8)]) G F10 N10 off10 ho7 (.tail _ (.head _)) hp10 (by omega) (kAt_ok HQ.ok.kind) ?_)
  intro h11 tk11 lt zs F11 N11 off11 hS11
  have hsum := HQ.sum'
  have hrl' := HQ.rlen'
  have hsz' := HQ.ok.size
  refine wpAny_execs_cons (st12 (c := c ++ [(Int.fmod x 3, Int.fmod (Int.fdiv x 3) 8)]) (tT := t9) (lt := lt) (zs := zs) (n := zs.length) G F11 N11 (by show some (Value.str (S (sentL c (Int.fmod x 3) (Int.fmod (Int.fdiv x 3) 8) x)) t9) = _; rw [HQ.text]) rfl (.head _) hS11 (by omega) hrl' ?_)
  intro tk12
  refine wpAny_execs_cons (st13 (rows := rowsS (c ++ [(Int.fmod x 3, Int.fmod (Int.fdiv x 3) 8)])) (text := textS (c ++ [(Int.fmod x 3, Int.fmod (Int.fdiv x 3) 8)])) (tT := t9) (lt := lt) (zs := zs) (n := zs.length) G F11 N11 rfl (by show some (Value.str (S (sentL c (Int.fmod x 3) (Int.fmod (Int.fdiv x 3) 8) x)) t9) = _; rw [HQ.text]) (.tail _ (.tail _ (.head _))) hS11 hrl' HQ.each' hsum (by omega) HQ.ok.split HQ.name ?_)
  intro h13 tk13 m13 F13 N13 hm13
  refine ret h13 tk13 m13 oc7 _ tm lc tp vs (c ++ [(Int.fmod x 3, Int.fmod (Int.fdiv x 3) 8)]) (Int.fmod x 3) (Int.fmod (Int.fdiv x 3) 8) t0 t1 t9 F13 (sub_news N13 ?_) ?_ ho7 ?_ ?_ ?_ HQ.ok (by omega)
  · intro q hq
    simp only [List.mem_cons] at hq ⊢
    rcases hq with h | h | h | h | h | h
    · simp [h]
    · simp [h]
    · simp [h]
    · simp [h]
    · simp [h]
    · have := sub6 q (sub5 q (.tail _ (.tail _ h)))
      simp [this]
  · exact (hm13 _ (by decide) (by decide)).trans hmails
  · intro q hq
    refine off10 q ?_
    simp only [List.mem_cons, List.not_mem_nil, or_false] at hq ⊢
    rcases hq with h | h | h <;> simp [h]
  · intro q hq
    have hq6 := sub6 q (sub5 q (.tail _ (.tail _ hq)))
    have a1 := lt7 q hq6
    refine ⟨a1, Nat.lt_trans a1 lt7', lt10 q (.tail _ (.tail _ hq6))⟩
  · exact (hp5.mono fun p hp => .tail _ hp).append (.cons (.head _) .nil)
end
end Mine
end

/- part L15 -/
section
open PySem PySem.W PyProof.Rows
set_option Elab.async false
set_option maxRecDepth 100000
set_option maxHeartbeats 8000000
namespace Mine
section
theorem ints_get : ∀ {vs : List Value} {ns : List Int}, IntsAre vs ns → ∀ {i : Nat} {v : Value}, vs[i]? = some v → ∃ n t, v = .int n t
  | _, _, .nil, i, v, h => by simp at h
  | _, _, .cons n t r, 0, v, h => ⟨n, t, by simpa using h.symm⟩
  | _, _, .cons n t r, i + 1, v, h => ints_get r (i := i) (by simpa using h)
noncomputable def lawBody (P : Params) : List Stmt := [lawStmt P 0, lawStmt P 1, lawStmt P 2, lawStmt P 3, lawStmt P 4, lawStmt P 5, lawStmt P 6, lawStmt P 7, lawStmt P 8, lawStmt P 9, lawStmt P 10, lawStmt P 11, lawStmt P 12, lawStmt P 13]
/-- what holds ahead of turn i -/
def LawInv (L lm : Addr) (keep : Addr × Obj) (i : Nat) (m : Str → Option Value) (nx : List (Addr × Obj)) : Prop :=
  ∃ (ms : List (List (Int × Int))) (mvs : List Value) (nm : Nat) (oc : Obj) (v : Option Value) (tl : List (Addr × Obj)), nx = (L + 1, oc) :: (lm, listOf mvs.toArray nm) :: tl ∧ m (Str.ofString "mails") = some (.ref lm) ∧ oc.data = .cell v ∧ OwnOff tl [L + 1, lm] ∧ MailsIn tl mvs ms ∧ mvs.length = i ∧ (∀ c ∈ ms, c.length ≤ i) ∧ keep ∈ tl
variable {w : World} {p : Program} {loose : List Str} {mean : ExcName → Option Value} {mg mb : Str → Option Value} {A₀ : Around} {base h₀ : Heap} {outer : List Env} {dp un : Nat} {gd : Option (List Code)} {L a : Addr} {ccd : Value} {m : Str → Option Value} {s : Shared} {Q : Flow → Shared → Prop} {E : Value → Shared → Prop}
theorem law_loop (HP : AllPure) {D lm : Addr} {ws : List Value} {ns : List Int} {nd : Nat} {oc : Obj} {v₀ : Option Value} (G : Gr w p loose mean mg mb A₀ base outer h₀ dp un) (F : Fr h₀ L s.heap m) (N : News h₀ L s.heap [(L + 1, oc), (lm, listOf #[] 0), (D, listOf ws.toArray nd)]) (ho : oc.data = .cell v₀)
    (h1 : L + 1 ≠ lm) (h2 : D ≠ L + 1) (h3 : D ≠ lm) (hmails : m (Str.ofString "mails") = some (.ref lm)) (hI : IntsAre ws ns) (hw : ws.length ≤ 7)
    (done : ∀ m₁ h tk, Fr h₀ L h m₁ → Q .next { s with heap := h, toks := tk }) :
    wpAny (model PySem.Challenge.rw_pk0022_01.row.prog w) (lawA w.params dp un gd L a ccd outer) (pyIter (.ref D)) (fun it s₂ => LoopAtV PySem.Challenge.rw_pk0022_01.row.prog w (lawA w.params dp un gd L a ccd outer) h₀ (lawEnv w.params L a ccd) (Str.ofString "x") (lawBody w.params) Q E it s₂) E s := by
  refine kdl_iter (env := lawEnv w.params L a ccd) (nn := nd) (vs := ws) (LawInv L lm (D, listOf ws.toArray nd)) rfl (.tail _ (.tail _ (.head _))) F N ?_ ?_ ?_
  · refine ⟨[], [], 0, oc, v₀, [(D, listOf ws.toArray nd)], rfl, hmails, ho, ?_, .nil, rfl, ?_, .head _⟩
    · intro q hq b hb
      rw [List.mem_singleton.mp hq]
      rcases List.mem_cons.mp hb with rfl | hb
      · exact h2
      · rw [List.mem_singleton.mp hb]; exact h3
    · intro c hc; cases hc
  · rintro i v m₁ news₁ h tk own hv hoff hD ⟨ms, mvs, nm, oc₁, v₁, tl, rfl, hm₁, ho₁, off₁, M₁, hi, hcl, hkeep⟩ F₁ N₁
    obtain ⟨x, tx, rfl⟩ := ints_get hI hv
    have hil : i < ws.length := by
      rcases Nat.lt_or_ge i ws.length with h | h
      · exact h
      · rw [List.getElem?_eq_none h] at hv; cases hv
    have hoff' : OwnOff (tl ++ own) [L + 1, lm] := by
      intro q hq b hb
      rcases List.mem_append.mp hq with h | h
      · exact off₁ q h b hb
      · refine hoff q h b ?_
        rcases List.mem_cons.mp hb with rfl | hb
        · exact .head _
        · rw [List.mem_singleton.mp hb]; exact .tail _ (.head _)
    refine law_turn HP (ms := ms) (x := x) (tx := tx) (rest := tl ++ own) (mvs := mvs) (nm := nm) (oc := oc₁) (v₀ := v₁) (tl := []) G F₁ N₁ ho₁ h1 hoff' rfl ?_ (fun q hq => List.mem_append_left _ hq) M₁ (by omega) (by rw [hi]; exact hcl) ?_
    · exact hm₁
    intro h' tk' m' oc' v' tm lc tp vs c d κ td tκ tT F' N' hm' ho' off' lt' P' C' cl'
    refine wpAny_execs_nil ?_
    refine ⟨h', tk', m', _, (L + 1, oc') :: (lm, listOf (mvs ++ [Value.ref tm]).toArray (nm + 1)) :: (tm, pairObj (.ref lc) (.str (textS c) tT)) :: (lc, listOf (List.toArray (vs ++ [Value.ref tp])) 0) :: (tp, pairObj (.int d td) (.int κ tκ)) :: tl, rfl, F', N', ?_, ?_, ?_, ?_, ?_⟩
    · intro q hq
      simp only [List.mem_cons, List.mem_append] at hq ⊢
      rcases hq with h | h | h | h | h | h <;> simp [h]
    · intro q hq
      simp only [List.mem_cons, List.mem_append]
      simp [hq]
    · intro q hq b hb
      have hlt := lt' q (List.mem_append_right _ hq)
      simp only [List.map_cons, List.mem_cons] at hb
      rcases hb with rfl | rfl | rfl | rfl | rfl | hb
      · exact hoff q hq _ (.head _)
      · exact hoff q hq _ (.tail _ (.head _))
      · exact Nat.ne_of_lt hlt.2.2
      · exact Nat.ne_of_lt hlt.2.1
      · exact Nat.ne_of_lt hlt.1
      · exact hoff q hq _ (.tail _ (.tail _ hb))
    · exact .tail _ (.tail _ (.tail _ (.tail _ (.tail _ hkeep))))
    · have hM := M₁.mono (news' := (tm, pairObj (.ref lc) (.str (textS c) tT)) :: (lc, listOf (List.toArray (vs ++ [Value.ref tp])) 0) :: (tp, pairObj (.int d td) (.int κ tκ)) :: tl) fun q hq => .tail _ (.tail _ (.tail _ hq))
      refine ⟨ms ++ [c], mvs ++ [Value.ref tm], nm + 1, oc', v', _, rfl, hm', ho', ?_, hM.snoc (.head _) (.tail _ (.head _)) (P'.mono fun q hq => .tail _ (.tail _ hq)) C', by simp [hi], ?_, .tail _ (.tail _ (.tail _ hkeep))⟩
      · intro q hq
        simp only [List.mem_cons] at hq
        rcases hq with h | h | h | h
        · exact off' q (by simp [h])
        · exact off' q (by simp [h])
        · exact off' q (by simp [h])
        · exact off₁ q h
      · intro e he
        rcases List.mem_append.mp he with h | h
        · exact Nat.le_succ_of_le (hcl e h)
        · rw [List.mem_singleton.mp h]; omega
  · intro m₁ news₁ h tk _ F₁ _
    exact done m₁ h tk F₁
end
end Mine
end

/- part L16 -/
section
open PySem PySem.W PyProof.Rows
set_option Elab.async false
set_option maxRecDepth 100000
set_option maxHeartbeats 8000000
namespace Mine
section
variable {w : World} {p : Program} {loose : List Str} {mean : ExcName → Option Value} {mg mb : Str → Option Value} {A₀ : Around} {base h₀ : Heap} {outer : List Env} {dp un : Nat} {gd : Option (List Code)} {L a : Addr} {ccd : Value} {m : Str → Option Value} {s : Shared} {Q : Flow → Shared → Prop} {E : Value → Shared → Prop}
theorem ints_len : ∀ {vs : List Value} {ns : List Int}, IntsAre vs ns → vs.length = ns.length
  | _, _, .nil => rfl
  | _, _, .cons _ _ r => by rw [List.length_cons, List.length_cons, ints_len r]
theorem law_loop' (HP : AllPure) {D lm : Addr} {ws : List Value} {ns : List Int} {nd : Nat} {oc : Obj} {v₀ : Option Value} {led : List (Addr × Obj)} (F : Fr h₀ L s.heap m) (N : News h₀ L s.heap led) (B : Below A₀ base outer h₀) (X : (Mine.hd.heap_39 w.params).In h₀) (T : Top p loose mean mg mb h₀) (hd : dp + 6 < recursionLimit) (hu : un + 300 < cLine)
    (hmails : m (Str.ofString "mails") = some (.ref lm)) (hD : (D, listOf ws.toArray nd) ∈ led) (hL : (lm, listOf #[] 0) ∈ led) (ho : oc.data = .cell v₀) (hC : (L + 1, oc) ∈ led)
    (h1 : L + 1 < lm) (h2 : lm < D) (hI : IntsAre ws ns) (hw : ns.length ≤ 7)
    (done : ∀ m₁ h tk, Fr h₀ L h m₁ → Q .next { s with heap := h, toks := tk }) :
    wpAny (model PySem.Challenge.rw_pk0022_01.row.prog w) (lawA w.params dp un gd L a ccd outer) (pyIter (.ref D)) (fun it s₂ => LoopAtV PySem.Challenge.rw_pk0022_01.row.prog w (lawA w.params dp un gd L a ccd outer) h₀ (lawEnv w.params L a ccd) (Str.ofString "x") (lawBody w.params) Q E it s₂) E s := by
  refine law_loop HP (nd := nd) (ws := ws) (oc := oc) (D := D) (lm := lm) ⟨B, X, T, hd, hu⟩ F (sub_news N ?_) ho (Nat.ne_of_lt h1) (Nat.ne_of_gt (Nat.lt_trans h1 h2)) (Nat.ne_of_gt h2) hmails hI (by rw [ints_len hI]; exact hw) done
  intro q hq
  simp only [List.mem_cons, List.not_mem_nil, or_false] at hq
  rcases hq with rfl | rfl | rfl
  · exact hC
  · exact hL
  · exact hD
end
section
/-- a goal that the walk leaves alone -/
def Held (q : Prop) : Prop := q
theorem hold {q : Prop} (h : Held q) : q := h
local macro_rules | `(tactic| walk_at "exec For Name") => `(tactic| (k_here; (rename Fr _ _ _ _ => lF'); (with_unfolding_all refine' For_invVF lF' ?k1 ?k2 ?_; (case k1 => exact rfl); (case k2 => exact rfl); k_whole)))
local macro_rules | `(tactic| walk_at "pyIter ref") => `(tactic| (refine hold ?_))
theorem law_holds (HP : AllPure) : PySem.Challenge.rw_pk0022_01.Holds := by
  refine Mine.hd ?_
  w_on
  k_with_none
  w_strict (k_go0; (all_goals try k_fold); k_steps)
  all_goals unfold Held
  all_goals (rename Fr _ _ _ _ => F9)
  all_goals (rename News _ _ _ _ => N9)
  · with_unfolding_all refine' law_loop' HP F9 N9 ?q1 ?q2 ?q3 ?q4 ?q5 ?q6 ?q7 ?q8 ?q9 ?q10 ?q11 ?q12 ?q13 ?q14 ?q15
    case q1 => assumption
    case q2 => assumption
    case q3 => assumption
    case q4 => decide +kernel
    case q5 => decide +kernel
    case q6 => rfl
    case q7 => exact .head _
    case q8 => exact .tail _ (.head _)
    case q9 => assumption
    case q10 => exact .tail _ (.tail _ (.head _))
    case q11 => assumption
    case q12 => (rename (_ < _ ∧ _ < _) => l9); exact l9.1
    case q13 => first | assumption | exact .cons _ _ .nil
    case q14 => first | exact List.length_take_le _ _ | decide
    intro m9 h9 tk9 F10
    show wpAny _ _ _ _ _ _
    k_steps
  · with_unfolding_all refine' law_loop' HP F9 N9 ?z1 ?z2 ?z3 ?z4 ?z5 ?z6 ?z7 ?z8 ?z9 ?z10 ?z11 ?z12 ?z13 ?z14 ?z15
    case z1 => assumption
    case z2 => assumption
    case z3 => assumption
    case z4 => decide +kernel
    case z5 => decide +kernel
    case z6 => rfl
    case z7 => exact .head _
    case z8 => exact .tail _ (.tail _ (.head _))
    case z9 => assumption
    case z10 => exact .tail _ (.tail _ (.tail _ (.head _)))
    case z11 => assumption
    case z12 => (rename (_ < _ ∧ _ < _ ∧ _ < _) => l9); exact l9.2.1
    case z13 => first | assumption | exact .cons _ _ .nil
    case z14 => first | exact List.length_take_le _ _ | decide
    intro m9 h9 tk9 F10
    show wpAny _ _ _ _ _ _
    k_steps
end
end Mine
end

/- part Q1 -/
section
open PySem PySem.W PyProof.Rows
set_option Elab.async false
set_option maxRecDepth 100000
namespace Mine
def joinL (sep : List Nat) : List (List Nat) → List Nat
  | [] => []
  | [x] => x
  | x :: y :: r => x ++ sep ++ joinL sep (y :: r)
theorem sjoin_eq (sep : List Nat) : ∀ (ls : List (List Nat)), Str.join (S sep) (ls.map S) = S (joinL sep ls)
  | [] => rfl
  | [x] => rfl
  | x :: y :: r => by
    show S x ++ S sep ++ Str.join (S sep) ((y :: r).map S) = S (x ++ sep ++ joinL sep (y :: r))
    rw [sjoin_eq sep (y :: r), S_append, S_append]
/-- no end of a row in it -/
def Clean (x : List Nat) : Prop := ∀ c ∈ x, c ≠ 10 ∧ c ≠ 13
theorem Clean.nil : Clean [] := fun _ h => nomatch h
theorem Clean.cons {c : Nat} {x : List Nat} (h : Clean (c :: x)) : ¬ (c = 10 ∨ c = 13) ∧ Clean x := ⟨fun q => q.elim (h c (.head _)).1 (h c (.head _)).2, fun d hd => h d (.tail _ hd)⟩
theorem Clean.append {x y : List Nat} (h : Clean x) (h' : Clean y) : Clean (x ++ y) := fun c hc => (List.mem_append.mp hc).elim (h c) (h' c)
theorem fix_clean (r : List Nat) : ∀ {x : List Nat}, Clean x → fixL (x ++ r) = x ++ fixL r
  | [], _ => rfl
  | c :: x, h => by
    rw [List.cons_append, fixL_plain h.cons.1, fix_clean r h.cons.2]; rfl
theorem fix_clean' {x : List Nat} (h : Clean x) : fixL x = x := by
  have := fix_clean [] h
  simpa [fixL] using this
theorem head_join {e : List Nat} (he : e.head? ≠ some 10) : ∀ {ls : List (List Nat)}, (∀ x ∈ ls, Clean x) → (joinL e ls).head? ≠ some 10
  | [], _ => by simp [joinL]
  | [x], h => by
    intro q
    cases x with
    | nil => cases q
    | cons c x => exact (h _ (.head _)).cons.1 (.inl (by simpa [joinL] using q))
  | x :: y :: r, h => by
    intro q
    cases x with
    | nil =>
      cases e with
      | nil =>
        exact head_join (e := []) (by simp) (fun z hz => h z (.tail _ hz)) (by simpa [joinL] using q)
      | cons d e => exact he (by simpa [joinL] using q)
    | cons c x => exact (h _ (.head _)).cons.1 (.inl (by simpa [joinL] using q))
theorem fix_join {e : List Nat} (he : e = [10] ∨ e = [13] ∨ e = [13, 10]) : ∀ {ls : List (List Nat)}, (∀ x ∈ ls, Clean x) → fixL (joinL e ls) = joinL [13, 10] ls
  | [], _ => rfl
  | [x], h => fix_clean' (h x (.head _))
  | x :: y :: r, h => by
    have hx := h x (.head _)
    have hr : ∀ z ∈ y :: r, Clean z := fun z hz => h z (.tail _ hz)
    have ih := fix_join he hr
    show fixL (x ++ e ++ joinL e (y :: r)) = x ++ [13, 10] ++ joinL [13, 10] (y :: r)
    rw [List.append_assoc, fix_clean _ hx, List.append_assoc, ← ih]
    congr 1
    rcases he with rfl | rfl | rfl
    · exact fixL_lf
    · exact fixL_cr (head_join (by simp) hr)
    · exact fixL_crlf
def dblL : List Nat → List Nat
  | 46 :: r => 46 :: 46 :: r
  | x => x
theorem dblL_dot (r : List Nat) : dblL (46 :: r) = 46 :: 46 :: r := rfl
theorem dblL_other {c : Nat} {r : List Nat} (h : c ≠ 46) : dblL (c :: r) = c :: r := by
  unfold dblL
  split
  · rename_i e; injection e with e1 e2; exact absurd e1 h
  · rfl
theorem dots_in (r : List Nat) : ∀ {x : List Nat}, Clean x → dotsL false (x ++ 13 :: 10 :: r) = x ++ 13 :: 10 :: dotsL true r
  | [], _ => by simp [dotsL]
  | c :: x, h => by
    have h10 : (c == 10) = false := by simpa using (h c (.head _)).1
    show (if _ then _ else _) = _
    rw [if_neg (by simp), h10, show (x.append (13 :: 10 :: r)) = x ++ 13 :: 10 :: r from rfl, dots_in r h.cons.2]; rfl
theorem dots_off : ∀ {x : List Nat}, Clean x → dotsL false x = x
  | [], _ => rfl
  | c :: x, h => by
    have h10 : (c == 10) = false := by simpa using (h c (.head _)).1
    show (if _ then _ else _) = _
    rw [if_neg (by simp), h10, dots_off h.cons.2]
theorem dots_row {x : List Nat} (h : Clean x) : dotsL true x = dblL x := by
  cases x with
  | nil => rfl
  | cons c x =>
    have h10 : (c == 10) = false := by simpa using (h c (.head _)).1
    show (if _ then _ else _) = _
    by_cases hc : c = 46
    · rw [if_pos ⟨rfl, hc⟩, hc, dots_off h.cons.2]; rfl
    · rw [if_neg (fun q => hc q.2), h10, dots_off h.cons.2, dblL_other hc]
theorem dots_row_in {x : List Nat} (h : Clean x) (r : List Nat) : dotsL true (x ++ 13 :: 10 :: r) = dblL x ++ 13 :: 10 :: dotsL true r := by
  cases x with
  | nil => simp [dotsL, dblL]
  | cons c x =>
    have h10 : (c == 10) = false := by simpa using (h c (.head _)).1
    show (if _ then _ else _) = _
    by_cases hc : c = 46
    · rw [if_pos ⟨rfl, hc⟩, hc, show (x.append (13 :: 10 :: r)) = x ++ 13 :: 10 :: r from rfl, dots_in r h.cons.2]; rfl
    · rw [if_neg (fun q => hc q.2), h10, show (x.append (13 :: 10 :: r)) = x ++ 13 :: 10 :: r from rfl, dots_in r h.cons.2, dblL_other hc]; rfl
theorem dots_join : ∀ {ls : List (List Nat)}, (∀ x ∈ ls, Clean x) → dotsL true (joinL [13, 10] ls) = joinL [13, 10] (ls.map dblL)
  | [], _ => rfl
  | [x], h => dots_row (h x (.head _))
  | x :: y :: r, h => by
    have ih := dots_join (ls := y :: r) (fun z hz => h z (.tail _ hz))
    show dotsL true (x ++ [13, 10] ++ joinL [13, 10] (y :: r)) = dblL x ++ [13, 10] ++ joinL [13, 10] ((y :: r).map dblL)
    rw [List.append_assoc, List.append_assoc, ← ih]
    exact dots_row_in (h x (.head _)) _
theorem joinL_len (sep : List Nat) (B : Nat) : ∀ {ls : List (List Nat)}, (∀ x ∈ ls, x.length ≤ B) → (joinL sep ls).length ≤ ls.length * (B + sep.length)
  | [], _ => Nat.zero_le _
  | [x], h => by
    have := h x (.head _)
    simp [joinL]; omega
  | x :: y :: r, h => by
    have ih := joinL_len sep B (ls := y :: r) (fun z hz => h z (.tail _ hz))
    have := h x (.head _)
    show (x ++ sep ++ joinL sep (y :: r)).length ≤ ((y :: r).length + 1) * (B + sep.length)
    rw [List.length_append, List.length_append, Nat.add_mul, Nat.one_mul]
    omega
end Mine
end

/- part Q2 -/
section
open PySem PySem.W PyProof.Rows
set_option Elab.async false
set_option maxRecDepth 100000
namespace Mine
/-- the dots that stand ahead of a row -/
def dotsAt (κ : Int) (n : Nat) : List Nat := if (bareL κ).head? = some 46 then List.replicate n 46 else []
def hashL : Nat → List Nat
  | 0 => []
  | a + 1 => 35 :: 32 :: hashL a
/-- a row, told by its kind, its answers and its sends ahead of them -/
def rowL (κ : Int) (a n : Nat) : List Nat :=
  match a with
  | 0 => dotsAt κ n ++ bareL κ
  | a + 1 => if coreL κ = [] then hashL a ++ [35] else hashL (a + 1) ++ dotsAt κ n ++ coreL κ
theorem fold_dots : ∀ (n : Nat) (acc : List Nat), (List.replicate n #[46]).foldl (· ++ ·) acc.toArray = (acc ++ List.replicate n 46).toArray
  | 0, acc => by simp
  | n + 1, acc => by
    rw [List.replicate_succ, List.foldl_cons, show acc.toArray ++ #[46] = (acc ++ [46]).toArray by simp, fold_dots n (acc ++ [46]), List.append_assoc, List.replicate_succ]; rfl
theorem fold_hash : ∀ (n : Nat) (acc : List Nat), (List.replicate n #[35, 32]).foldl (· ++ ·) acc.toArray = (acc ++ hashL n).toArray
  | 0, acc => by simp [hashL]
  | n + 1, acc => by
    rw [List.replicate_succ, List.foldl_cons, show acc.toArray ++ #[35, 32] = (acc ++ [35, 32]).toArray by simp, fold_hash n (acc ++ [35, 32]), List.append_assoc]; rfl
theorem ofS_dot : Str.ofString "." = S [46] := by decide +kernel
theorem ofS_hs : Str.ofString "# " = S [35, 32] := by decide +kernel
theorem ofS_h : Str.ofString "#" = S [35] := by decide +kernel
theorem ofS_e : Str.ofString "" = S [] := by decide +kernel
theorem mul_dots (n : Nat) : Txt.mul (Str.ofString ".") (n : Int) = S (List.replicate n 46) := by
  rw [ofS_dot]
  unfold Txt.mul
  by_cases h : (n : Int) < 1
  · have : n = 0 := by omega
    subst this
    rw [if_pos h]; rfl
  · rw [if_neg h]
    by_cases h1 : n = 1
    · subst h1; rfl
    · have e : ((n : Int) == 1 || (S [46]).length == 0) = false := by
        rw [Bool.or_eq_false_iff]
        exact ⟨by simp; omega, rfl⟩
      rw [e]
      have := fold_dots n []
      show Str.mk ((List.replicate (n : Int).toNat #[46]).foldl (· ++ ·) #[]) = _
      rw [Int.toNat_natCast]
      rw [show (#[] : Array Nat) = [].toArray from rfl, this]; rfl
theorem mul_hash (n : Nat) : Txt.mul (Str.ofString "# ") (n : Int) = S (hashL n) := by
  rw [ofS_hs]
  unfold Txt.mul
  by_cases h : (n : Int) < 1
  · have : n = 0 := by omega
    subst this
    rw [if_pos h]; rfl
  · rw [if_neg h]
    by_cases h1 : n = 1
    · subst h1; rfl
    · have e : ((n : Int) == 1 || (S [35, 32]).length == 0) = false := by
        rw [Bool.or_eq_false_iff]
        exact ⟨by simp; omega, rfl⟩
      rw [e]
      have := fold_hash n []
      show Str.mk ((List.replicate (n : Int).toNat #[35, 32]).foldl (· ++ ·) #[]) = _
      rw [Int.toNat_natCast]
      rw [show (#[] : Array Nat) = [].toArray from rfl, this]; rfl
theorem eight {κ : Int} (h0 : 0 ≤ κ) (h8 : κ < 8) : κ = 0 ∨ κ = 1 ∨ κ = 2 ∨ κ = 3 ∨ κ = 4 ∨ κ = 5 ∨ κ = 6 ∨ κ = 7 := by omega
theorem slice_dot {κ : Int} (h0 : 0 ≤ κ) (h8 : κ < 8) : (Txt.slice (S (bareL κ)) none (some 1) == Str.ofString ".") = decide ((bareL κ).head? = some 46) := by
  rcases eight h0 h8 with h | h | h | h | h | h | h | h <;> subst h <;> decide +kernel
theorem core_nil {κ : Int} (h0 : 0 ≤ κ) (h8 : κ < 8) : (S (coreL κ) == Str.ofString "") = decide (coreL κ = []) := by
  rcases eight h0 h8 with h | h | h | h | h | h | h | h <;> subst h <;> decide +kernel
/-- the sends that stand ahead of the first answer -/
def sndI (c : List (Int × Int)) (k : Int) : List Int := List.foldl (gSnd c) [] (rangeKs k (firstI c k - k).toNat)
theorem rowDots_eq {c : List (Int × Int)} {k : Int} (h0 : 0 ≤ kAt c k) (h8 : kAt c k < 8) : rowDots c k = S (dotsAt (kAt c k) (sndI c k).length) := by
  unfold rowDots dotsAt
  rw [slice_dot h0 h8]
  by_cases h : (bareL (kAt c k)).head? = some 46
  · rw [if_pos (decide_eq_true h), if_pos h, mul_dots]; rfl
  · rw [if_neg (by simpa using h), if_neg h, ofS_e]
theorem rowV_eq {c : List (Int × Int)} {k : Int} (h0 : 0 ≤ kAt c k) (h8 : kAt c k < 8) : rowV c k = S (rowL (kAt c k) (ansI c k).length (sndI c k).length) := by
  unfold rowV
  rw [rowDots_eq h0 h8, core_nil h0 h8]
  show (if decide (ansI c k = []) = true then _ else if _ then Txt.mul _ (((ansI c k).length : Int) - 1) ++ _ else Txt.mul _ ((ansI c k).length : Int) ++ _ ++ _) = _
  cases ha : (ansI c k).length with
  | zero =>
    rw [if_pos (decide_eq_true (List.eq_nil_of_length_eq_zero ha)), S_append]; rfl
  | succ a =>
    rw [if_neg (by intro q; rw [of_decide_eq_true q] at ha; cases ha)]
    rw [show ((a + 1 : Nat) : Int) - 1 = (a : Int) by omega, mul_hash, mul_hash]
    unfold rowL
    by_cases hc : coreL (kAt c k) = []
    · rw [if_pos (decide_eq_true hc)]; dsimp only; rw [if_pos hc, ofS_h, S_append]
    · rw [if_neg (by simpa using hc)]; dsimp only; rw [if_neg hc, S_append, S_append]
/-- how a row changes as a deed comes in -/
theorem dbl_row {κ : Int} (h0 : 0 ≤ κ) (h8 : κ < 8) (n : Nat) : dblL (rowL κ 0 n) = rowL κ 0 (n + 1) := by
  unfold rowL dotsAt
  dsimp only
  by_cases h : (bareL κ).head? = some 46
  · rw [if_pos h, if_pos h]
    cases n with
    | zero =>
      cases hb : bareL κ with
      | nil => rw [hb] at h; cases h
      | cons b r =>
        rw [hb] at h
        have : b = 46 := by simpa using h
        subst this
        rfl
    | succ n => rfl
  · rw [if_neg h, if_neg h]
    cases hb : bareL κ with
    | nil => rfl
    | cons b r =>
      rw [hb] at h
      exact dblL_other (by simpa using h)
theorem dbl_hash (κ : Int) (a n : Nat) : dblL (rowL κ (a + 1) n) = rowL κ (a + 1) n := by
  unfold rowL
  dsimp only
  split
  · cases a with
    | zero => exact dblL_other (by decide)
    | succ a => exact dblL_other (by decide)
  · exact dblL_other (by decide)
theorem clean_of_all {x : List Nat} (h : x.all (fun c => c != 10 && c != 13) = true) : Clean x := by
  intro c hc
  have := List.all_eq_true.mp h c hc
  simpa using this
theorem bare_clean {κ : Int} (h0 : 0 ≤ κ) (h8 : κ < 8) : Clean (bareL κ) := by
  rcases eight h0 h8 with h | h | h | h | h | h | h | h <;> subst h <;> exact clean_of_all (by decide +kernel)
theorem core_clean {κ : Int} (h0 : 0 ≤ κ) (h8 : κ < 8) : Clean (coreL κ) := by
  rcases eight h0 h8 with h | h | h | h | h | h | h | h <;> subst h <;> exact clean_of_all (by decide +kernel)
theorem dots_clean (κ : Int) (n : Nat) : Clean (dotsAt κ n) := by
  unfold dotsAt
  split
  · intro c hc
    rw [(List.mem_replicate.mp hc).2]; decide
  · exact Clean.nil
theorem hash_clean : ∀ a, Clean (hashL a)
  | 0 => Clean.nil
  | a + 1 => (clean_of_all (x := [35, 32]) (by decide)).append (hash_clean a)
theorem row_clean {κ : Int} (h0 : 0 ≤ κ) (h8 : κ < 8) (a n : Nat) : Clean (rowL κ a n) := by
  unfold rowL
  split
  · exact (dots_clean _ _).append (bare_clean h0 h8)
  · split
    · exact (hash_clean _).append (clean_of_all (by decide))
    · exact ((hash_clean _).append (dots_clean _ _)).append (core_clean h0 h8)
theorem hash_len : ∀ a, (hashL a).length = 2 * a
  | 0 => rfl
  | a + 1 => by simp [hashL, hash_len a]; omega
theorem row_len {κ : Int} (a n : Nat) : (rowL κ a n).length ≤ 2 * a + n + 9 := by
  have hb : (bareL κ).length ≤ 8 := by have := bare_len κ; rwa [S_length] at this
  have hc : (coreL κ).length ≤ 8 := by have := core_len κ; rwa [S_length] at this
  have hd : (dotsAt κ n).length ≤ n := by unfold dotsAt; split <;> simp
  unfold rowL
  split
  · simp; omega
  · split
    · simp [hash_len]; omega
    · simp [hash_len]; omega
end Mine
end

/- part Q3 -/
section
open PySem PySem.W PyProof.Rows
set_option Elab.async false
set_option maxRecDepth 100000
namespace Mine
theorem range_snoc (a : Int) (n : Nat) : rangeKs a (n + 1) = rangeKs a n ++ [a + (n : Int)] := by
  unfold rangeKs
  rw [List.range_succ, List.map_append]; rfl
section
variable {c : List (Int × Int)} {d κ : Int}
theorem dAt_old {j : Int} (h0 : 0 ≤ j) (h : j < (c.length : Int)) : dAt (c ++ [(d, κ)]) j = dAt c j := by
  unfold dAt
  rw [List.getD_eq_getElem?_getD, List.getD_eq_getElem?_getD, List.getElem?_append_left (by omega)]
theorem kAt_old {j : Int} (h0 : 0 ≤ j) (h : j < (c.length : Int)) : kAt (c ++ [(d, κ)]) j = kAt c j := by
  unfold kAt
  rw [List.getD_eq_getElem?_getD, List.getD_eq_getElem?_getD, List.getElem?_append_left (by omega)]
theorem dAt_new : dAt (c ++ [(d, κ)]) (c.length : Int) = d := by
  unfold dAt
  rw [List.getD_eq_getElem?_getD, Int.toNat_natCast, List.getElem?_append_right (Nat.le_refl _)]
  simp
theorem kAt_new : kAt (c ++ [(d, κ)]) (c.length : Int) = κ := by
  unfold kAt
  rw [List.getD_eq_getElem?_getD, Int.toNat_natCast, List.getElem?_append_right (Nat.le_refl _)]
  simp
theorem foldAns_congr {c c' : List (Int × Int)} : ∀ (js l : List Int), (∀ j ∈ js, dAt c' j = dAt c j) → js.foldl (gAns c') l = js.foldl (gAns c) l
  | [], _, _ => rfl
  | j :: js, l, h => by
    rw [List.foldl_cons, List.foldl_cons, show gAns c' l j = gAns c l j by unfold gAns; rw [h j (.head _)]]
    exact foldAns_congr js _ fun i hi => h i (.tail _ hi)
theorem foldSnd_congr {c c' : List (Int × Int)} : ∀ (js l : List Int), (∀ j ∈ js, dAt c' j = dAt c j) → js.foldl (gSnd c') l = js.foldl (gSnd c) l
  | [], _, _ => rfl
  | j :: js, l, h => by
    rw [List.foldl_cons, List.foldl_cons, show gSnd c' l j = gSnd c l j by unfold gSnd; rw [h j (.head _)]]
    exact foldSnd_congr js _ fun i hi => h i (.tail _ hi)
theorem ans_step {k : Int} (h0 : 0 ≤ k) (h : k < (c.length : Int)) : ansI (c ++ [(d, κ)]) k = if d = 1 then ansI c k ++ [(c.length : Int)] else ansI c k := by
  have e1 : (((c ++ [(d, κ)]).length : Int) - (k + 1)).toNat = ((c.length : Int) - (k + 1)).toNat + 1 := by
    rw [List.length_append, List.length_singleton]; omega
  have e2 : (k + 1) + ((((c.length : Int) - (k + 1)).toNat : Nat) : Int) = (c.length : Int) := by omega
  have old : ∀ j ∈ rangeKs (k + 1) ((c.length : Int) - (k + 1)).toNat, dAt (c ++ [(d, κ)]) j = dAt c j := by
    intro j hj
    have := mem_rangeKs hj
    exact dAt_old (by omega) (by omega)
  show List.foldl _ _ _ = _
  rw [e1, range_snoc, e2, List.foldl_append, foldAns_congr _ _ old]
  show gAns (c ++ [(d, κ)]) (ansI c k) (c.length : Int) = _
  generalize ansI c k = z
  unfold gAns
  rw [dAt_new]
theorem first_nil {k : Int} (h : ansI c k = []) : firstI c k = (c.length : Int) := by unfold firstI; rw [h]; rfl
theorem fold_min_cons : ∀ (l : List Int) (x a b : Int), x ≤ a → x ≤ b → (x :: l).foldl min a = (x :: l).foldl min b := by
  intro l x a b h1 h2
  rw [List.foldl_cons, List.foldl_cons, show min a x = min b x by omega]
theorem first_step {k : Int} (h0 : 0 ≤ k) (h : k < (c.length : Int)) : firstI (c ++ [(d, κ)]) k = if d ≠ 1 ∧ ansI c k = [] then firstI c k + 1 else firstI c k := by
  have el : ((c ++ [(d, κ)]).length : Int) = (c.length : Int) + 1 := by rw [List.length_append, List.length_singleton]; omega
  by_cases ha : ansI c k = []
  · rw [first_nil ha]
    unfold firstI
    rw [ans_step h0 h, ha, el]
    by_cases hd : d = 1
    · rw [if_pos hd, if_neg (fun q => q.1 hd)]
      show min ((c.length : Int) + 1) (c.length : Int) = _
      omega
    · rw [if_neg hd, if_pos ⟨hd, rfl⟩]; rfl
  · rw [if_neg (fun q => ha q.2)]
    unfold firstI
    rw [ans_step h0 h, el]
    cases hc : ansI c k with
    | nil => exact absurd hc ha
    | cons x l =>
      have hx := ansI_mem (c := c) (k := k) (x := x) (by rw [hc]; exact .head _)
      have e1 : (x :: l).foldl min ((c.length : Int) + 1) = (x :: l).foldl min (c.length : Int) := fold_min_cons l x _ _ (by omega) (by omega)
      by_cases hd : d = 1
      · rw [if_pos hd, List.foldl_append, e1]
        show min _ _ = _
        have := (foldl_min_le (x :: l) (c.length : Int)).1
        omega
      · rw [if_neg hd, e1]
theorem snd_step {k : Int} (h0 : 0 ≤ k) (h : k < (c.length : Int)) : (sndI (c ++ [(d, κ)]) k).length = if d ≠ 1 ∧ d ≠ 2 ∧ ansI c k = [] then (sndI c k).length + 1 else (sndI c k).length := by
  have hb := firstI_bounds h
  have old : ∀ j ∈ rangeKs k (firstI c k - k).toNat, dAt (c ++ [(d, κ)]) j = dAt c j := by
    intro j hj
    have := mem_rangeKs hj
    exact dAt_old (by omega) (by omega)
  unfold sndI
  rw [first_step h0 h]
  by_cases hq : d ≠ 1 ∧ ansI c k = []
  · rw [if_pos hq]
    have hf := first_nil hq.2
    have e1 : (firstI c k + 1 - k).toNat = (firstI c k - k).toNat + 1 := by omega
    have e2 : k + (((firstI c k - k).toNat : Nat) : Int) = (c.length : Int) := by omega
    rw [e1, range_snoc, e2, List.foldl_append, foldSnd_congr _ _ old]
    show (gSnd _ _ _).length = _
    unfold gSnd
    rw [dAt_new]
    by_cases h2 : d = 2
    · rw [if_pos h2, if_neg (fun q => q.2.1 h2)]
    · rw [if_neg h2, if_pos ⟨hq.1, h2, hq.2⟩, List.length_append]; rfl
  · rw [if_neg hq, foldSnd_congr _ _ old, if_neg (fun q => hq ⟨q.1, q.2.2⟩)]
theorem ans_new : ansI (c ++ [(d, κ)]) (c.length : Int) = [] := by
  unfold ansI
  rw [show (((c ++ [(d, κ)]).length : Int) - ((c.length : Int) + 1)).toNat = 0 by rw [List.length_append, List.length_singleton]; omega]; rfl
theorem snd_new : (sndI (c ++ [(d, κ)]) (c.length : Int)).length = if d = 2 then 0 else 1 := by
  unfold sndI
  rw [first_nil ans_new, show (((c ++ [(d, κ)]).length : Int) - (c.length : Int)).toNat = 0 + 1 by rw [List.length_append, List.length_singleton]; omega, range_snoc]
  show (gSnd _ _ _).length = _
  unfold gSnd
  rw [show (c.length : Int) + ((0 : Nat) : Int) = (c.length : Int) by omega, dAt_new]
  by_cases h2 : d = 2
  · rw [if_pos h2, if_pos h2]; rfl
  · rw [if_neg h2, if_neg h2]; rfl
theorem ans_len {k : Int} : (ansI c k).length ≤ c.length + (-k).toNat := by
  have key : ∀ (js l : List Int), (js.foldl (gAns c) l).length ≤ l.length + js.length := by
    intro js
    induction js with
    | nil => intro l; simp
    | cons j js ih =>
      intro l
      rw [List.foldl_cons, List.length_cons]
      have := ih (gAns c l j)
      have h1 : (gAns c l j).length ≤ l.length + 1 := by unfold gAns; split <;> simp
      omega
  have := key (rangeKs (k + 1) ((c.length : Int) - (k + 1)).toNat) []
  rw [rangeKs_length] at this
  unfold ansI
  simp only [List.length_nil] at this
  omega
theorem snd_len {k : Int} (h0 : 0 ≤ k) (h : k < (c.length : Int)) : (sndI c k).length ≤ c.length := by
  have key : ∀ (js l : List Int), (js.foldl (gSnd c) l).length ≤ l.length + js.length := by
    intro js
    induction js with
    | nil => intro l; simp
    | cons j js ih =>
      intro l
      rw [List.foldl_cons, List.length_cons]
      have := ih (gSnd c l j)
      have h1 : (gSnd c l j).length ≤ l.length + 1 := by unfold gSnd; split <;> simp
      omega
  have := key (rangeKs k (firstI c k - k).toNat) []
  rw [rangeKs_length] at this
  have hb := firstI_bounds h
  unfold sndI
  simp only [List.length_nil] at this
  omega
end
end Mine
end

/- part Q4 -/
section
open PySem PySem.W PyProof.Rows
set_option Elab.async false
set_option maxRecDepth 100000
namespace Mine
open PySem.Builtin PySem.Builtin.Str
theorem S_getD (l : List Nat) (k : Nat) : (S l).cps.getD k 0 = l.getD k 0 := by
  simp [S, Array.getD_eq_getD_getElem?, List.getD_eq_getElem?_getD]
theorem str_of_toList {x : Str} {l : List Nat} (h : x.cps.toList = l) : x = S l := by rw [← S_of x, h]
theorem rstrip_is {u w : List Nat} (hA : ∀ c ∈ u ++ w, c < 128) (hw : ∀ c ∈ w, spS ⟨#[c]⟩ = true) (hu : u = [] ∨ ∃ v x, u = v ++ [x] ∧ spS ⟨#[x]⟩ = false) : Txt.rstrip (S (u ++ w)) = S u := by
  obtain ⟨hi, h1, h2, h3, h4⟩ := rstrip_cut (x := S (u ++ w)) hA
  rw [S_length, List.length_append] at h1
  have hge : ¬ u.length < hi := by
    intro hlt
    rcases h4 with h4 | h4
    · omega
    · rw [S_getD, List.getD_eq_getElem?_getD, List.getElem?_append_right (by omega), List.getElem?_eq_getElem (by omega), Option.getD_some] at h4
      rw [hw _ (List.getElem_mem _)] at h4
      cases h4
  have hle : ¬ hi < u.length := by
    intro hlt
    rcases hu with rfl | ⟨v, x, rfl, hx⟩
    · exact absurd hlt (Nat.not_lt_zero _)
    · rw [List.length_append, List.length_singleton] at hlt
      have := h3 v.length (by omega) (by rw [S_length]; simp)
      rw [S_getD, List.getD_eq_getElem?_getD, List.getElem?_append_left (by simp), List.getElem?_append_right (Nat.le_refl _)] at this
      simp at this
      rw [hx] at this
      cases this
  have e : hi = u.length := by omega
  rw [h2, e]
  refine str_of_toList ?_
  rw [StrLaws.strSub_toList, S_cps]
  simp
theorem comment_of {u w : List Nat} (hA : ∀ c ∈ u ++ w, c < 128) (hw : ∀ c ∈ w, spS ⟨#[c]⟩ = true) (hu : u = [] ∨ ∃ v x, u = v ++ [x] ∧ spS ⟨#[x]⟩ = false) : commentV (S (u ++ w)) = if u = [] then S [35] else S (35 :: 32 :: u) := by
  unfold commentV
  rw [rstrip_is hA hw hu, S_length, ofS_h, ofS_hs, S_append]
  by_cases h : u = []
  · rw [if_pos h, if_pos (by rw [h]; rfl)]
  · rw [if_neg h, if_neg (by intro q; exact h (List.eq_nil_of_length_eq_zero q))]; rfl
/-- what a kind is made of: its core, and blanks behind it -/
theorem kind_parts {κ : Int} (h0 : 0 ≤ κ) (h8 : κ < 8) : ∃ w, bareL κ = coreL κ ++ w ∧ (∀ c ∈ w, spS ⟨#[c]⟩ = true) ∧ (coreL κ = [] ∨ ∃ v x, coreL κ = v ++ [x] ∧ spS ⟨#[x]⟩ = false) ∧ (coreL κ = [] → (bareL κ).head? ≠ some 46) := by
  have sp : ∀ w : List Nat, w.all (fun c => spS ⟨#[c]⟩) = true → ∀ c ∈ w, spS ⟨#[c]⟩ = true := fun w h => List.all_eq_true.mp h
  rcases eight h0 h8 with h | h | h | h | h | h | h | h <;> subst h
  · exact ⟨[], by decide, sp _ (by decide +kernel), .inl (by decide), fun _ => by decide⟩
  · exact ⟨[], by decide, sp _ (by decide +kernel), .inr ⟨[], 46, by decide, by decide +kernel⟩, fun h => absurd h (by decide)⟩
  · exact ⟨[], by decide, sp _ (by decide +kernel), .inr ⟨[46, 46], 98, by decide, by decide +kernel⟩, fun h => absurd h (by decide)⟩
  · exact ⟨[32, 11], by decide, sp _ (by decide +kernel), .inr ⟨[97], 46, by decide, by decide +kernel⟩, fun h => absurd h (by decide)⟩
  · exact ⟨[], by decide, sp _ (by decide +kernel), .inr ⟨[46, 97, 58, 46, 98, 58, 32], 99, by decide, by decide +kernel⟩, fun h => absurd h (by decide)⟩
  · exact ⟨[], by decide, sp _ (by decide +kernel), .inr ⟨[32, 46], 98, by decide, by decide +kernel⟩, fun h => absurd h (by decide)⟩
  · exact ⟨[], by decide, sp _ (by decide +kernel), .inr ⟨[58, 11], 46, by decide, by decide +kernel⟩, fun h => absurd h (by decide)⟩
  · exact ⟨[32, 9], by decide, sp _ (by decide +kernel), .inl (by decide), fun _ => by decide⟩
theorem bare_low {κ : Int} (h0 : 0 ≤ κ) (h8 : κ < 8) : ∀ c ∈ bareL κ, c < 128 := by
  have sp : ∀ w : List Nat, w.all (fun c => decide (c < 128)) = true → ∀ c ∈ w, c < 128 := fun w h c hc => of_decide_eq_true (List.all_eq_true.mp h c hc)
  rcases eight h0 h8 with h | h | h | h | h | h | h | h <;> subst h <;> exact sp _ (by decide +kernel)
theorem dots_low (κ : Int) (n : Nat) : ∀ c ∈ dotsAt κ n, c < 128 := by
  unfold dotsAt
  split
  · intro c hc
    rw [(List.mem_replicate.mp hc).2]; decide
  · intro c hc; cases hc
theorem hash_low : ∀ a, ∀ c ∈ hashL a, c < 128
  | 0, c, h => nomatch h
  | a + 1, c, h => by
    rcases List.mem_cons.mp h with rfl | h
    · decide
    · rcases List.mem_cons.mp h with rfl | h
      · decide
      · exact hash_low a c h
theorem comment_row {κ : Int} (h0 : 0 ≤ κ) (h8 : κ < 8) (a n : Nat) : commentV (S (rowL κ a n)) = S (rowL κ (a + 1) n) := by
  obtain ⟨w, hb, hw, hc, hdot⟩ := kind_parts h0 h8
  have hlow := bare_low h0 h8
  have hclow : ∀ c ∈ coreL κ, c < 128 := fun c h => hlow c (by rw [hb]; exact List.mem_append_left _ h)
  by_cases hn : coreL κ = []
  · have hd : dotsAt κ n = [] := by unfold dotsAt; rw [if_neg (hdot hn)]
    cases a with
    | zero =>
      have e : rowL κ 0 n = [] ++ w := by unfold rowL; dsimp only; rw [hd, hb, hn]; rfl
      rw [e, comment_of (by intro c h; exact hlow c (by rw [hb, hn]; exact h)) hw (.inl rfl), if_pos rfl]
      unfold rowL; dsimp only; rw [if_pos hn]; rfl
    | succ a =>
      have e : rowL κ (a + 1) n = (hashL a ++ [35]) ++ [] := by unfold rowL; dsimp only; rw [if_pos hn, List.append_nil]
      rw [e, comment_of ?_ (by intro _ h; cases h) (.inr ⟨hashL a, 35, rfl, by decide +kernel⟩), if_neg (by simp)]
      · unfold rowL; dsimp only; rw [if_pos hn]; rfl
      · intro c h
        rw [List.append_nil] at h
        rcases List.mem_append.mp h with h | h
        · exact hash_low a c h
        · rw [List.mem_singleton.mp h]; decide
  · obtain ⟨v, x, hv, hx⟩ := hc.resolve_left hn
    cases a with
    | zero =>
      have e : rowL κ 0 n = (dotsAt κ n ++ coreL κ) ++ w := by unfold rowL; dsimp only; rw [hb, List.append_assoc]
      rw [e, comment_of ?_ hw (.inr ⟨dotsAt κ n ++ v, x, by rw [hv, List.append_assoc], hx⟩), if_neg (by simp [hn])]
      · unfold rowL; dsimp only; rw [if_neg hn]; rfl
      · intro c h
        rw [List.append_assoc, ← hb] at h
        rcases List.mem_append.mp h with h | h
        · exact dots_low κ n c h
        · exact hlow c h
    | succ a =>
      have e : rowL κ (a + 1) n = (hashL (a + 1) ++ dotsAt κ n ++ coreL κ) ++ [] := by unfold rowL; dsimp only; rw [if_neg hn, List.append_nil]
      rw [e, comment_of ?_ (by intro _ h; cases h) (.inr ⟨hashL (a + 1) ++ dotsAt κ n ++ v, x, by simp [hv], hx⟩), if_neg (by simp [hn])]
      · unfold rowL; dsimp only; rw [if_neg hn]; rfl
      · intro c h
        rw [List.append_nil] at h
        rcases List.mem_append.mp h with h | h
        · rcases List.mem_append.mp h with h | h
          · exact hash_low _ c h
          · exact dots_low κ n c h
        · exact hclow c h
end Mine
end

/- part Q5 -/
section
open PySem PySem.W PyProof.Rows
set_option Elab.async false
set_option maxRecDepth 100000
namespace Mine
def rowLs (c : List (Int × Int)) : List (List Nat) := (rangeKs 0 c.length).map fun k => rowL (kAt c k) (ansI c k).length (sndI c k).length
def rowLc (c : List (Int × Int)) : List (List Nat) := (rangeKs 0 c.length).map fun k => rowL (kAt c k) ((ansI c k).length + 1) (sndI c k).length
def Kinds (c : List (Int × Int)) : Prop := ∀ x ∈ c, 0 ≤ x.2 ∧ x.2 < 8
theorem Kinds.at {c : List (Int × Int)} (h : Kinds c) {k : Int} (hk : k ∈ rangeKs 0 c.length) : 0 ≤ kAt c k ∧ kAt c k < 8 := by
  have := mem_rangeKs hk
  exact kAt_ok h k this.1 (by omega)
theorem rowsS_eq {c : List (Int × Int)} (h : Kinds c) : rowsS c = (rowLs c).map S := by
  unfold rowsS rowLs
  rw [List.map_map]
  refine List.map_congr_left fun k hk => ?_
  exact rowV_eq (h.at hk).1 (h.at hk).2
theorem rowsC_eq {c : List (Int × Int)} (h : Kinds c) : (rowsS c).map commentV = (rowLc c).map S := by
  unfold rowsS rowLc
  rw [List.map_map, List.map_map]
  refine List.map_congr_left fun k hk => ?_
  show commentV (rowV c k) = _
  rw [rowV_eq (h.at hk).1 (h.at hk).2, comment_row (h.at hk).1 (h.at hk).2]; rfl
theorem rowLs_clean {c : List (Int × Int)} (h : Kinds c) : ∀ x ∈ rowLs c, Clean x := by
  intro x hx
  obtain ⟨k, hk, rfl⟩ := List.mem_map.mp hx
  exact row_clean (h.at hk).1 (h.at hk).2 _ _
theorem rowLc_clean {c : List (Int × Int)} (h : Kinds c) : ∀ x ∈ rowLc c, Clean x := by
  intro x hx
  obtain ⟨k, hk, rfl⟩ := List.mem_map.mp hx
  exact row_clean (h.at hk).1 (h.at hk).2 _ _
theorem rowLs_len {c : List (Int × Int)} : ∀ x ∈ rowLs c, x.length ≤ 3 * c.length + 9 := by
  intro x hx
  obtain ⟨k, hk, rfl⟩ := List.mem_map.mp hx
  have hb := mem_rangeKs hk
  have h1 := row_len (κ := kAt c k) (ansI c k).length (sndI c k).length
  have h2 := ans_len (c := c) (k := k)
  have h3 := snd_len (c := c) (k := k) hb.1 (by omega)
  omega
theorem rowLc_len {c : List (Int × Int)} : ∀ x ∈ rowLc c, x.length ≤ 3 * c.length + 11 := by
  intro x hx
  obtain ⟨k, hk, rfl⟩ := List.mem_map.mp hx
  have hb := mem_rangeKs hk
  have h1 := row_len (κ := kAt c k) ((ansI c k).length + 1) (sndI c k).length
  have h2 := ans_len (c := c) (k := k)
  have h3 := snd_len (c := c) (k := k) hb.1 (by omega)
  omega
theorem rowLs_count (c : List (Int × Int)) : (rowLs c).length = c.length := by unfold rowLs; rw [List.length_map, rangeKs_length]
theorem rowLc_count (c : List (Int × Int)) : (rowLc c).length = c.length := by unfold rowLc; rw [List.length_map, rangeKs_length]
theorem row_zero (κ : Int) : rowL κ 0 0 = bareL κ := by
  unfold rowL dotsAt
  dsimp only
  split <;> rfl
section
variable {c : List (Int × Int)} {d κ : Int}
theorem rowLs_snoc : rowLs (c ++ [(d, κ)]) = (rangeKs 0 c.length).map (fun k => rowL (kAt (c ++ [(d, κ)]) k) (ansI (c ++ [(d, κ)]) k).length (sndI (c ++ [(d, κ)]) k).length) ++ [rowL κ 0 (if d = 2 then 0 else 1)] := by
  unfold rowLs
  rw [List.length_append, List.length_singleton, range_snoc, List.map_append]
  congr 1
  rw [List.map_singleton, show (0 : Int) + (c.length : Int) = (c.length : Int) by omega, kAt_new, ans_new, snd_new]
  rfl
theorem step_two : rowLs (c ++ [(2, κ)]) = rowLs c ++ [bareL κ] := by
  rw [rowLs_snoc, if_pos rfl, row_zero]
  congr 1
  refine List.map_congr_left fun k hk => ?_
  have hb := mem_rangeKs hk
  rw [kAt_old hb.1 (by omega), ans_step hb.1 (by omega), snd_step hb.1 (by omega), if_neg (by decide), if_neg (fun q => q.2.1 rfl)]
theorem step_zero (h0 : 0 ≤ κ) (h8 : κ < 8) (hk : Kinds c) : rowLs (c ++ [(0, κ)]) = (rowLs c ++ [bareL κ]).map dblL := by
  rw [rowLs_snoc, if_neg (by decide), List.map_append, List.map_singleton, ← row_zero κ, dbl_row h0 h8]
  congr 1
  unfold rowLs
  rw [List.map_map]
  refine List.map_congr_left fun k hk' => ?_
  have hb := mem_rangeKs hk'
  show _ = dblL (rowL _ _ _)
  rw [kAt_old hb.1 (by omega), ans_step hb.1 (by omega), snd_step hb.1 (by omega), if_neg (by decide)]
  by_cases ha : ansI c k = []
  · rw [if_pos ⟨by decide, by decide, ha⟩, ha]
    exact (dbl_row (hk.at hk').1 (hk.at hk').2 _).symm
  · rw [if_neg (fun q => ha q.2.2)]
    cases hl : (ansI c k).length with
    | zero => exact absurd (List.eq_nil_of_length_eq_zero hl) ha
    | succ a => exact (dbl_hash _ _ _).symm
theorem step_one (h0 : 0 ≤ κ) (h8 : κ < 8) : rowLs (c ++ [(1, κ)]) = (rowLc c ++ [bareL κ]).map dblL := by
  rw [rowLs_snoc, if_neg (by decide), List.map_append, List.map_singleton, ← row_zero κ, dbl_row h0 h8]
  congr 1
  unfold rowLc
  rw [List.map_map]
  refine List.map_congr_left fun k hk' => ?_
  have hb := mem_rangeKs hk'
  show _ = dblL (rowL _ _ _)
  rw [kAt_old hb.1 (by omega), ans_step hb.1 (by omega), snd_step hb.1 (by omega), if_pos rfl, if_neg (fun q => q.1 rfl), List.length_append, dbl_hash]
  rfl
end
theorem crlf_S : crlf = S [13, 10] := rfl
theorem textS_eq {c : List (Int × Int)} (h : Kinds c) : textS c = S (joinL [13, 10] (rowLs c)) := by
  unfold textS
  rw [rowsS_eq h, crlf_S, sjoin_eq]
theorem sepS_eq (x : Int) : ∃ e, sepS x = S e ∧ (e = [10] ∨ e = [13] ∨ e = [13, 10]) := by
  unfold sepS
  split
  · exact ⟨[10], by decide +kernel, .inl rfl⟩
  · split
    · exact ⟨[13], by decide +kernel, .inr (.inl rfl)⟩
    · exact ⟨[13, 10], by decide +kernel, .inr (.inr rfl)⟩
theorem Kinds.snoc {c : List (Int × Int)} {d κ : Int} (h : Kinds c) (h0 : 0 ≤ κ) (h8 : κ < 8) : Kinds (c ++ [(d, κ)]) := by
  intro x hx
  rcases List.mem_append.mp hx with hx | hx
  · exact h x hx
  · rw [List.mem_singleton.mp hx]; exact ⟨h0, h8⟩
section
variable {c : List (Int × Int)} {d κ : Int}
def laidRows (c : List (Int × Int)) (d κ : Int) : List (List Nat) := (if d = 1 then rowLc c else rowLs c) ++ [bareL κ]
theorem laid_eq (hk : Kinds c) (x : Int) : ∃ e, (e = [10] ∨ e = [13] ∨ e = [13, 10]) ∧ laidL c d κ x = joinL e (laidRows c d κ) := by
  obtain ⟨e, he, hh⟩ := sepS_eq x
  refine ⟨e, hh, ?_⟩
  unfold laidL
  have e2 : rows1 c d ++ [S (bareL κ)] = (laidRows c d κ).map S := by
    unfold rows1 laidRows
    rw [List.map_append]
    congr 1
    by_cases h1 : d = 1
    · rw [if_pos h1, if_pos h1, rowsC_eq hk]
    · rw [if_neg h1, if_neg h1, rowsS_eq hk]
  rw [e2, he, sjoin_eq, S_cps]
theorem laid_clean (hk : Kinds c) (h0 : 0 ≤ κ) (h8 : κ < 8) : ∀ x ∈ laidRows c d κ, Clean x := by
  intro x hx
  rcases List.mem_append.mp hx with hx | hx
  · split at hx
    · exact rowLc_clean hk x hx
    · exact rowLs_clean hk x hx
  · rw [List.mem_singleton.mp hx]; exact bare_clean h0 h8
theorem text_eq (hk : Kinds c) (hd : d = 0 ∨ d = 1 ∨ d = 2) (h0 : 0 ≤ κ) (h8 : κ < 8) (x : Int) : S (sentL c d κ x) = textS (c ++ [(d, κ)]) := by
  obtain ⟨e, he, hl⟩ := laid_eq (d := d) (κ := κ) hk x
  have hc := laid_clean (d := d) hk h0 h8
  rw [textS_eq (hk.snoc h0 h8)]
  congr 1
  unfold sentL
  rw [hl, fix_join he hc]
  rcases hd with rfl | rfl | rfl
  · rw [if_neg (by decide), dots_join hc, step_zero h0 h8 hk]; rfl
  · rw [if_neg (by decide), dots_join hc, step_one h0 h8]; rfl
  · rw [if_pos rfl, step_two]; rfl
end
end Mine
end

/- part Q6 -/
section
open PySem PySem.W PyProof.Rows
set_option Elab.async false
set_option maxRecDepth 100000
namespace Mine
open PySem.Builtin PySem.Builtin.Str PySem.StrLaws
theorem at_crlf {l : List Nat} {k : Nat} : At (S l) (S [13, 10]) (S l).length k ↔ (l.drop k).take 2 = [13, 10] := by
  unfold At
  rw [subAt_eq, S_length, S_length, S_cps, S_cps]
  show k + 2 ≤ l.length ∧ ((l.drop k).take 2 == [13, 10]) = true ↔ _
  rw [beq_iff_eq]
  refine ⟨fun h => h.2, fun h => ⟨?_, h⟩⟩
  have := congrArg List.length h
  simp at this
  omega
theorem no_at {r : List Nat} (h : Clean r) {j : Nat} (hj : j < r.length) (t : List Nat) : ¬ ((r ++ t).drop j).take 2 = [13, 10] := by
  intro q
  rw [List.drop_append_of_le_length (by omega), List.drop_eq_getElem_cons hj] at q
  rw [List.cons_append, List.take_succ_cons] at q
  injection q with this _
  exact (h _ (List.getElem_mem hj)).2 this
theorem S_ext {x : Str} {l : List Nat} (h : x.cps.toList = l) : x = S l := by rw [← S_of x, h]
theorem parts_eq {l : List Nat} : ∀ (Ls : List (List Nat)) (a : Nat) (cuts : List Nat) (f : Nat), Ls ≠ [] → (∀ x ∈ Ls, Clean x) → l.drop a = joinL [13, 10] Ls → ChainG (S l) (S [13, 10]) (S l).length a cuts f → (∀ k, f ≤ k → ¬ At (S l) (S [13, 10]) (S l).length k) →
    partsFrom (S l) 2 a cuts = Ls.map S
  | [], _, _, _, h, _, _, _, _ => absurd rfl h
  | [r], a, cuts, f, _, hc, hl, hG, hn => by
    have hr := hc r (.head _)
    have none : ∀ k, a ≤ k → ¬ At (S l) (S [13, 10]) (S l).length k := by
      intro k hk hA
      rw [at_crlf, show k = a + (k - a) by omega, ← List.drop_drop, hl] at hA
      by_cases hlt : k - a < r.length
      · exact no_at hr hlt [] (by rw [List.append_nil]; exact hA)
      · rw [show joinL [13, 10] [r] = r from rfl, List.drop_eq_nil_of_le (by omega)] at hA
        cases hA
    cases cuts with
    | nil =>
      show [strSub (S l) a (S l).length] = [S r]
      congr 1
      refine S_ext ?_
      rw [strSub_toList, S_cps, hl, S_length]
      refine List.take_of_length_le ?_
      have := congrArg List.length hl
      rw [List.length_drop] at this
      exact Nat.le_of_eq this.symm
    | cons b cuts => exact absurd hG.2.1 (none b hG.1)
  | r :: s :: rest, a, cuts, f, _, hc, hl, hG, hn => by
    have hr := hc r (.head _)
    have hl' : l.drop a = r ++ ([13, 10] ++ joinL [13, 10] (s :: rest)) := by rw [hl]; show r ++ [13, 10] ++ _ = _; rw [List.append_assoc]
    have hit : At (S l) (S [13, 10]) (S l).length (a + r.length) := by
      rw [at_crlf, ← List.drop_drop, hl', List.drop_append_of_le_length (Nat.le_refl _), List.drop_length]; rfl
    have miss : ∀ k, a ≤ k → k < a + r.length → ¬ At (S l) (S [13, 10]) (S l).length k := by
      intro k h1 h2 hA
      rw [at_crlf, show k = a + (k - a) by omega, ← List.drop_drop, hl'] at hA
      exact no_at hr (by omega) _ hA
    cases cuts with
    | nil =>
      have e : f = a := hG
      exact absurd hit (hn _ (by omega))
    | cons b cuts =>
      obtain ⟨g1, g2, g3, g4⟩ := hG
      have eb : b = a + r.length := by
        rcases Nat.lt_trichotomy b (a + r.length) with h | h | h
        · exact absurd g2 (miss b g1 h)
        · exact h
        · exact absurd hit (g3 _ (by omega) h)
      subst eb
      have hnext : l.drop (a + r.length + 2) = joinL [13, 10] (s :: rest) := by
        rw [← List.drop_drop, ← List.drop_drop, hl', List.drop_append_of_le_length (Nat.le_refl _), List.drop_length]; rfl
      have ih := parts_eq (s :: rest) (a + r.length + 2) cuts f (by simp) (fun x hx => hc x (.tail _ hx)) hnext g4 hn
      show strSub (S l) a (a + r.length) :: partsFrom (S l) 2 (a + r.length + 2) cuts = S r :: (s :: rest).map S
      rw [ih]
      congr 1
      refine S_ext ?_
      rw [strSub_toList, S_cps, hl', show a + r.length - a = r.length by omega]
      simp
theorem kind_le (x : Str) : 1 ≤ PySem.Builtin.Str.strKind x := by
  unfold PySem.Builtin.Str.strKind
  split
  · omega
  · split <;> omega
theorem split_rows {Ls : List (List Nat)} (h : Ls ≠ []) (hc : ∀ x ∈ Ls, Clean x) : Txt.split (S (joinL [13, 10] Ls)) (S [13, 10]) = Ls.map S := by
  obtain ⟨f, hG, hn⟩ := occ_tight (S (joinL [13, 10] Ls)) (S [13, 10]) (by decide)
  have key := parts_eq (l := joinL [13, 10] Ls) Ls 0 _ f h hc rfl hG hn
  have none_one : occurrences (S (joinL [13, 10] Ls)) (S [13, 10]) 0 (S (joinL [13, 10] Ls)).length ((S (joinL [13, 10] Ls)).length + 1) = [] → [S (joinL [13, 10] Ls)] = Ls.map S := by
    intro e
    rw [e] at key
    rw [← key]
    show _ = [strSub _ _ _]
    rw [sub_whole]
  unfold Txt.split
  split
  · rename_i hq
    refine none_one ?_
    have hk := kind_le (S (joinL [13, 10] Ls))
    have hk2 : PySem.Builtin.Str.strKind (S [13, 10]) = 1 := by decide +kernel
    rw [Bool.or_eq_true, decide_eq_true_eq, decide_eq_true_eq] at hq
    have hlen : (S (joinL [13, 10] Ls)).length < 2 := by
      rcases hq with hq | hq
      · exact hq
      · omega
    cases ho : occurrences (S (joinL [13, 10] Ls)) (S [13, 10]) 0 (S (joinL [13, 10] Ls)).length ((S (joinL [13, 10] Ls)).length + 1) with
    | nil => rfl
    | cons b r =>
      rw [ho] at hG
      have := hG.2.1.1
      have e2 : (S [13, 10]).length = 2 := rfl
      omega
  · split
    · rename_i hq
      exact none_one (List.isEmpty_iff.mp hq)
    · rw [partsBetween_eq]
      exact key
end Mine
end

/- part Q7 -/
section
open PySem PySem.W PyProof.Rows
set_option Elab.async false
set_option maxRecDepth 100000
namespace Mine
open PySem.Builtin PySem.Builtin.Str PySem.StrLaws
/-- no place at all: nothing found -/
theorem occ_miss {x y : Str} {hi : Nat} (h : ∀ i, ¬ At x y hi i) : occurrences x y 0 hi 1 = [] := by
  cases ho : occurrences x y 0 hi 1 with
  | nil => rfl
  | cons b r => exact absurd (occ_spec x y 0 hi 1 b (by rw [ho]; exact .head _)) (h b)
/-- the first place is the one that is found -/
theorem occ_hit {x y : Str} {hi n : Nat} (hn : At x y hi n) (before : ∀ k, k < n → ¬ At x y hi k) : ∃ r, occurrences x y 0 hi 1 = n :: r := by
  have hlen := hn.1
  rw [occ_eq]
  rcases occ_first x y hi 1 (Nat.le_refl 1) (List.range' 0 (hi + 1 - 0)) 0 (fun i _ => Nat.zero_le i) with g | ⟨pre, b, post, e, g, hb, hpre⟩
  · exact absurd hn (g.2 n (List.mem_range'_1.mpr ⟨Nat.zero_le _, by omega⟩))
  · have place : ∀ k, k ≤ pre.length → (List.range' 0 (hi + 1 - 0))[k]? = some k := by
      intro k hk
      have hl := congrArg List.length e
      rw [List.length_range', List.length_append, List.length_cons] at hl
      rw [List.getElem?_range' (by omega)]
      simp
    have eb : b = pre.length := by
      have := place pre.length (Nat.le_refl _)
      rw [e, List.getElem?_append_right (Nat.le_refl _), Nat.sub_self] at this
      simpa using this
    have en : b = n := by
      rcases Nat.lt_trichotomy b n with q | q | q
      · exact absurd hb (before b q)
      · exact q
      · have := place n (by omega)
        rw [e, List.getElem?_append_left (by omega)] at this
        exact absurd hn (hpre n (List.mem_of_getElem? this))
    revert g
    generalize (forIn (List.range' 0 (hi + 1 - 0)) ((#[] : Array Nat), 0) (occBody x y hi 1)).run.fst = found
    intro g
    obtain ⟨fs⟩ := found
    cases fs with
    | nil => cases g
    | cons z zs =>
      have : z = b := by simpa using g
      exact ⟨zs, by rw [this, en]⟩
theorem last_ok (x y : Str) (hi : Nat) : LastOk x y hi (List.range' 0 (hi + 1 - 0)) (lastOccurrence x y 0 hi) := by
  rw [last_eq]
  exact last_run x y hi (List.range' 0 (hi + 1 - 0)) [] none (by intro i h; cases h) (by intro i h; cases h) List.pairwise_lt_range'
theorem last_miss {x y : Str} {hi : Nat} (h : ∀ i, ¬ At x y hi i) : lastOccurrence x y 0 hi = none := by
  have key := last_ok x y hi
  cases ho : lastOccurrence x y 0 hi with
  | none => rfl
  | some b => rw [ho] at key; exact absurd key.1 (h b)
theorem last_hit {x y : Str} {hi n : Nat} (hn : At x y hi n) (after : ∀ k, n < k → ¬ At x y hi k) : lastOccurrence x y 0 hi = some n := by
  have key := last_ok x y hi
  have hlen := hn.1
  have hm : n ∈ List.range' 0 (hi + 1 - 0) := List.mem_range'_1.mpr ⟨Nat.zero_le _, by omega⟩
  cases ho : lastOccurrence x y 0 hi with
  | none => rw [ho] at key; exact absurd hn (key n hm)
  | some b =>
    rw [ho] at key
    rcases Nat.lt_trichotomy b n with q | q | q
    · exact absurd hn (key.2 n hm q)
    · rw [q]
    · exact absurd key.1 (after b q)
/-- one sign, found ahead of hi -/
theorem at_one {l : List Nat} {c hi k : Nat} (hh : hi ≤ l.length) : At (S l) (S [c]) hi k ↔ k < hi ∧ l[k]? = some c := by
  unfold At
  have h1 := subAt_one (S l) c k
  rw [S_length, S_cps] at h1
  have e1 : (S [c]).length = 1 := rfl
  have e2 : (⟨#[c]⟩ : Str).length = 1 := rfl
  rw [e2] at h1
  rw [e1]
  constructor
  · rintro ⟨a, b⟩
    exact ⟨by omega, h1.mp ⟨by omega, b⟩⟩
  · rintro ⟨a, b⟩
    exact ⟨by omega, (h1.mpr b).2⟩
def IsHead (c : Nat) (y p : List Nat) : Prop := c ∉ p ∧ (y = p ∨ ∃ t, y = p ++ c :: t)
def IsLast (c : Nat) (y q : List Nat) : Prop := c ∉ q ∧ (y = q ∨ ∃ t, y = t ++ c :: q)
theorem IsHead.len {c : Nat} {y p : List Nat} (h : IsHead c y p) : p.length ≤ y.length := by
  rcases h.2 with e | ⟨t, e⟩ <;> subst e <;> simp
theorem IsHead.take {c : Nat} {y p : List Nat} (h : IsHead c y p) : y.take p.length = p := by
  rcases h.2 with e | ⟨t, e⟩ <;> subst e <;> simp
/-- the first c in l ahead of hi, where the head of l.take hi is p -/
theorem first_at {l p : List Nat} {c hi : Nat} (hh : hi ≤ l.length) (hp : IsHead c (l.take hi) p) :
    (p.length = hi ∧ occurrences (S l) (S [c]) 0 hi 1 = []) ∨ (p.length < hi ∧ ∃ r, occurrences (S l) (S [c]) 0 hi 1 = p.length :: r) := by
  have hfree : ∀ k, k < p.length → l[k]? ≠ some c := by
    intro k hk q
    have h1 : (l.take hi).take p.length = p := hp.take
    have hle := hp.len
    rw [List.length_take] at hle
    have : p[k]? = some c := by rw [← h1, List.getElem?_take_of_lt hk, List.getElem?_take_of_lt (by omega)]; exact q
    exact hp.1 (List.mem_of_getElem? this)
  rcases hp.2 with e | ⟨t, e⟩
  · have hlen : p.length = hi := by rw [← e, List.length_take]; omega
    refine .inl ⟨hlen, ?_⟩
    refine occ_miss fun i hA => ?_
    rw [at_one hh] at hA
    exact hfree i (by omega) hA.2
  · have hlt : p.length < hi := by
      have := congrArg List.length e
      rw [List.length_take, List.length_append, List.length_cons] at this
      omega
    have hit : l[p.length]? = some c := by
      have : (l.take hi)[p.length]? = some c := by rw [e]; simp
      rwa [List.getElem?_take_of_lt hlt] at this
    refine .inr ⟨hlt, occ_hit ((at_one hh).mpr ⟨hlt, hit⟩) fun k hk hA => ?_⟩
    rw [at_one hh] at hA
    exact hfree k hk hA.2
theorem last_at {l q : List Nat} {c hi : Nat} (hh : hi ≤ l.length) (hq : IsLast c (l.take hi) q) :
    (q.length = hi ∧ lastOccurrence (S l) (S [c]) 0 hi = none) ∨ (∃ i, i + 1 + q.length = hi ∧ lastOccurrence (S l) (S [c]) 0 hi = some i) := by
  rcases hq.2 with e | ⟨t, e⟩
  · have hlen : q.length = hi := by rw [← e, List.length_take]; omega
    refine .inl ⟨hlen, ?_⟩
    refine last_miss fun i hA => ?_
    rw [at_one hh] at hA
    refine hq.1 ?_
    have : q[i]? = some c := by rw [← e, List.getElem?_take_of_lt hA.1]; exact hA.2
    exact List.mem_of_getElem? this
  · have hlen : t.length + (q.length + 1) = hi := by
      have := congrArg List.length e
      rw [List.length_take, List.length_append, List.length_cons] at this
      omega
    have hit : l[t.length]? = some c := by
      have : (l.take hi)[t.length]? = some c := by rw [e]; simp
      rwa [List.getElem?_take_of_lt (by omega)] at this
    have hfree : ∀ k, t.length < k → k < hi → l[k]? ≠ some c := by
      intro k h1 h2 h3
      have : (l.take hi)[k]? = some c := by rw [List.getElem?_take_of_lt h2]; exact h3
      rw [e, List.getElem?_append_right (by omega), show k - t.length = (k - t.length - 1) + 1 by omega, List.getElem?_cons_succ] at this
      exact hq.1 (List.mem_of_getElem? this)
    refine .inr ⟨t.length, by omega, last_hit ((at_one hh).mpr ⟨by omega, hit⟩) fun k hk hA => ?_⟩
    rw [at_one hh] at hA
    exact hfree k hk hA.1 hA.2
end Mine
end

/- part Q8 -/
section
open PySem PySem.W PyProof.Rows
set_option Elab.async false
set_option maxRecDepth 100000
namespace Mine
open PySem.Builtin PySem.Builtin.Str PySem.StrLaws
theorem oc_lf : Str.ofString "\n" = S [10] := by decide +kernel
theorem oc_colon : Str.ofString ":" = S [58] := by decide +kernel
theorem oc_dot : Str.ofString "." = S [46] := by decide +kernel
theorem oc_cr : Str.ofString "\x0d" = S [13] := by decide +kernel
theorem oc_crlf : Str.ofString "\x0d\n" = S [13, 10] := by decide +kernel
theorem from_nat (n k : Nat) : fromIndex n (k : Int) = k := by
  unfold fromIndex
  rw [if_neg (by omega)]
  omega
theorem from_zero (n : Nat) : fromIndex n 0 = 0 := from_nat n 0
section
variable {l p : List Nat}
theorem stripE0_is (h : IsHead 10 l p) : stripE0 (S l) = (p.length : Int) := by
  unfold stripE0 Txt.find
  rw [oc_lf, S_length]
  have := first_at (l := l) (p := p) (c := 10) (hi := l.length) (Nat.le_refl _) (by rw [List.take_length]; exact h)
  rcases this with ⟨h1, h2⟩ | ⟨h1, r, h2⟩
  · rw [h2]
    show (if (0 : Int) ≤ -1 then _ else _) = _
    rw [if_neg (by decide), h1]
  · rw [h2]
    show (if (0 : Int) ≤ (p.length : Int) then _ else _) = _
    rw [if_pos (by omega)]
theorem stripE_is {h : List Nat} (h1 : IsHead 10 l p) (h2 : IsHead 58 p h) : stripE (S l) = (h.length : Int) := by
  have hle := h1.len
  unfold stripE
  rw [stripE0_is h1]
  have e : find4 (S l) (Str.ofString ":") 0 (p.length : Int) = match occurrences (S l) (S [58]) 0 p.length 1 with | k :: _ => (k : Int) | [] => -1 := by
    unfold find4
    rw [oc_colon, from_zero, from_nat, S_length, Nat.min_eq_left hle]
    all_goals rfl
  rw [e]
  have := first_at (l := l) (p := h) (c := 58) (hi := p.length) hle (by rw [h1.take]; exact h2)
  rcases this with ⟨g1, g2⟩ | ⟨g1, r, g2⟩
  · rw [g2]
    show (if (0 : Int) ≤ -1 then _ else _) = _
    rw [if_neg (by decide), g1]
  · rw [g2]
    show (if (0 : Int) ≤ (h.length : Int) then _ else _) = _
    rw [if_pos (by omega)]
theorem take_head {h : List Nat} (h1 : IsHead 10 l p) (h2 : IsHead 58 p h) : l.take h.length = h := by
  have e : (l.take p.length).take h.length = h := by rw [h1.take, h2.take]
  rwa [List.take_take, Nat.min_eq_left h2.len] at e
theorem strip_is {h q : List Nat} (h1 : IsHead 10 l p) (h2 : IsHead 58 p h) (h3 : IsLast 46 h q) : stripV (S l) = S q := by
  have hle : h.length ≤ l.length := Nat.le_trans h2.len h1.len
  have ht := take_head h1 h2
  have eE := stripE_is h1 h2
  have eb : rfind4 (S l) (Str.ofString ".") 0 (h.length : Int) = match lastOccurrence (S l) (S [46]) 0 h.length with | some k => (k : Int) | none => -1 := by
    unfold rfind4
    rw [oc_dot, from_zero, from_nat, S_length, Nat.min_eq_left hle]
    all_goals rfl
  have hB : ∃ b : Nat, stripB (S l) = (b : Int) ∧ b + q.length = h.length := by
    unfold stripB
    rw [eE, eb]
    rcases last_at (l := l) (q := q) (c := 46) (hi := h.length) hle (by rw [ht]; exact h3) with ⟨g1, g2⟩ | ⟨i, g1, g2⟩
    · rw [g2]
      refine ⟨0, ?_, by omega⟩
      show (if (0 : Int) ≤ -1 then _ else _) = _
      rw [if_neg (by decide)]; rfl
    · rw [g2]
      refine ⟨i + 1, ?_, by omega⟩
      show (if (0 : Int) ≤ (i : Int) then _ else _) = _
      rw [if_pos (by omega)]; rfl
  obtain ⟨b, eb', hb⟩ := hB
  unfold stripV
  rw [eE, eb']
  show sliceText (S l) (some (b : Int)) (some (h.length : Int)) = S q
  rw [sliceText_plain ⟨by omega, by omega, by rw [S_cps]; omega⟩, S_cps]
  show S _ = S q
  congr 1
  rw [Int.toNat_natCast, show ((h.length : Int) - (b : Int)).toNat = h.length - b by omega]
  have : (l.drop b).take (h.length - b) = h.drop b := by
    rw [← List.drop_take, ht]
  rw [this]
  rcases h3.2 with e | ⟨t, e⟩
  · have : b = 0 := by rw [e] at hb; omega
    rw [this, e]; rfl
  · have hb' : b = t.length + 1 := by
      have := congrArg List.length e
      rw [List.length_append, List.length_cons] at this
      omega
    rw [hb', e, ← List.drop_drop, List.drop_append_of_le_length (Nat.le_refl _), List.drop_length]; rfl
end
/-- the parts of a split by one sign -/
theorem join_cons_toList (c : Nat) (x : Str) (y : Str) (r : List Str) : (Str.join (S [c]) (x :: y :: r)).cps.toList = x.cps.toList ++ c :: (Str.join (S [c]) (y :: r)).cps.toList := by
  show (x ++ S [c] ++ Str.join (S [c]) (y :: r)).cps.toList = _
  rw [Str.cps_append, Str.cps_append]
  simp [S]
theorem join_last (c : Nat) : ∀ (r : List Str) (x : Str), ∃ t, (Str.join (S [c]) (x :: r)).cps.toList = t ++ ((x :: r).getLastD Str.empty).cps.toList ∧ (t = [] ∨ ∃ u, t = u ++ [c])
  | [], x => ⟨[], rfl, .inl rfl⟩
  | y :: r, x => by
    obtain ⟨t, e, h⟩ := join_last c r y
    refine ⟨x.cps.toList ++ c :: t, ?_, .inr ?_⟩
    · rw [join_cons_toList, e, List.append_assoc]; rfl
    · rcases h with rfl | ⟨u, rfl⟩
      · exact ⟨_, rfl⟩
      · exact ⟨x.cps.toList ++ c :: u, by simp⟩
theorem head_is (c : Nat) (y : List Nat) : IsHead c y ((Txt.split (S y) (S [c])).headD Str.empty).cps.toList := by
  have hj := join_split (S y) (S [c])
  have hf := split_free (S y) c
  have hp := split_pos (S y) (S [c])
  change ∀ p ∈ Txt.split (S y) (S [c]), c ∉ p.cps.toList at hf
  cases hs : Txt.split (S y) (S [c]) with
  | nil => rw [hs] at hp; cases hp
  | cons a r =>
    rw [hs] at hj hf
    refine ⟨hf a (.head _), ?_⟩
    cases r with
    | nil =>
      left
      have : a = S y := hj
      show y = a.cps.toList
      rw [this, S_cps]
    | cons b r =>
      right
      refine ⟨(Str.join (S [c]) (b :: r)).cps.toList, ?_⟩
      have := congrArg (fun z => z.cps.toList) hj
      simp only [join_cons_toList, S_cps] at this
      exact this.symm
theorem last_is (c : Nat) (y : List Nat) : IsLast c y ((Txt.split (S y) (S [c])).getLastD Str.empty).cps.toList := by
  have hj := join_split (S y) (S [c])
  have hf := split_free (S y) c
  have hp := split_pos (S y) (S [c])
  change ∀ p ∈ Txt.split (S y) (S [c]), c ∉ p.cps.toList at hf
  cases hs : Txt.split (S y) (S [c]) with
  | nil => rw [hs] at hp; cases hp
  | cons a r =>
    rw [hs] at hj hf
    have hm : (a :: r).getLastD Str.empty ∈ a :: r := by simp [List.getLastD]
    refine ⟨hf _ hm, ?_⟩
    obtain ⟨t, e, h⟩ := join_last c r a
    rw [hj, S_cps] at e
    rcases h with rfl | ⟨u, rfl⟩
    · left; simpa using e
    · right; exact ⟨u, by rw [e]; simp⟩
theorem head_V (y : List Nat) : IsHead 58 y (headV (S y)).cps.toList := by
  unfold headV
  rw [oc_colon]
  exact head_is 58 y
theorem name_V (y : List Nat) : IsLast 46 (headV (S y)).cps.toList (nameV (S y)).cps.toList := by
  have := last_is 46 (headV (S y)).cps.toList
  rw [S_of] at this
  unfold nameV
  rw [oc_dot]
  exact this
theorem contains_colon (y : List Nat) : Txt.contains (S y) (Str.ofString ":") = decide (58 ∈ y) := by
  rw [oc_colon]
  exact found_one (S y) 58
/-- the name of a row, alone or with the end of the row behind it -/
theorem name_row {r : List Nat} (hr : Clean r) : stripV (S r) = nameV (S r) := by
  have h10 : 10 ∉ r := fun h => (hr _ h).1 rfl
  have := strip_is (l := r) (p := r) ⟨h10, .inl rfl⟩ (head_V r) (name_V r)
  rwa [S_of] at this
theorem name_more {r : List Nat} (hr : Clean r) (t : List Nat) : stripV (S (r ++ 13 :: 10 :: t)) = if 58 ∈ r then nameV (S r) else nameV (S r) ++ S [13] := by
  have h10 : 10 ∉ r ++ [13] := by
    intro h
    rcases List.mem_append.mp h with h | h
    · exact (hr _ h).1 rfl
    · simp at h
  have hl : IsHead 10 (r ++ 13 :: 10 :: t) (r ++ [13]) := ⟨h10, .inr ⟨t, by simp⟩⟩
  have hh := head_V r
  have hn := name_V r
  by_cases hc : 58 ∈ r
  · rw [if_pos hc]
    have hh' : IsHead 58 (r ++ [13]) (headV (S r)).cps.toList := by
      refine ⟨hh.1, .inr ?_⟩
      rcases hh.2 with e | ⟨u, e⟩
      · exact absurd (e ▸ hc) hh.1
      · exact ⟨u ++ [13], by rw [show r ++ [13] = ((headV (S r)).cps.toList ++ 58 :: u) ++ [13] by rw [← e]]; simp⟩
    have := strip_is hl hh' hn
    rwa [S_of] at this
  · rw [if_neg hc]
    have e : r = (headV (S r)).cps.toList := by
      rcases hh.2 with e | ⟨u, e⟩
      · exact e
      · exact absurd (by rw [e]; simp) hc
    have hh' : IsHead 58 (r ++ [13]) (r ++ [13]) := ⟨by
      intro h
      rcases List.mem_append.mp h with h | h
      · exact hc h
      · simp at h, .inl rfl⟩
    have hn' : IsLast 46 (r ++ [13]) ((nameV (S r)).cps.toList ++ [13]) := by
      rw [← e] at hn
      refine ⟨?_, ?_⟩
      · intro h
        rcases List.mem_append.mp h with h | h
        · exact hn.1 h
        · simp at h
      · rcases hn.2 with e2 | ⟨u, e2⟩
        · left; rw [← e2]
        · right
          exact ⟨u, by rw [show r ++ [13] = (u ++ 46 :: (nameV (S r)).cps.toList) ++ [13] by rw [← e2]]; simp⟩
    have := strip_is hl hh' hn'
    rw [this, ← S_append, S_of]
theorem ask_row {Ls : List (List Nat)} (hc : ∀ x ∈ Ls, Clean x) {k : Nat} (hk : k < Ls.length) : stripV (Str.join (Str.ofString "\x0d\n") ((Ls.map S).drop k)) = askName (Ls.map S) k := by
  rw [oc_crlf, ← List.map_drop, sjoin_eq, List.drop_eq_getElem_cons hk]
  have hr := hc _ (List.getElem_mem hk)
  have eg : (Ls.map S).getD k Str.empty = S Ls[k] := by
    rw [List.getD_eq_getElem?_getD, List.getElem?_map, List.getElem?_eq_getElem hk]; rfl
  unfold askName
  rw [eg, contains_colon, List.length_map, oc_cr]
  cases hd : Ls.drop (k + 1) with
  | nil =>
    have hlen := congrArg List.length hd
    rw [List.length_drop, List.length_nil] at hlen
    rw [if_neg (by intro q; have := q.2; omega)]
    exact name_row hr
  | cons s rest =>
    have hlen := congrArg List.length hd
    rw [List.length_drop, List.length_cons] at hlen
    show stripV (S (Ls[k] ++ [13, 10] ++ joinL [13, 10] (s :: rest))) = _
    rw [List.append_assoc]
    show stripV (S (Ls[k] ++ 13 :: 10 :: joinL [13, 10] (s :: rest))) = _
    rw [name_more hr]
    by_cases h58 : 58 ∈ Ls[k]
    · rw [if_pos h58, if_neg (by intro q; have := q.1; simp [h58] at this)]
    · rw [if_neg h58, if_pos ⟨by simp [h58], by omega⟩]
end Mine
end

/- part Q9 -/
section
open PySem PySem.W PyProof.Rows
set_option Elab.async false
set_option maxRecDepth 100000
namespace Mine
theorem sum_len {B : Nat} : ∀ {ls : List Str}, (∀ y ∈ ls, y.length ≤ B) → (ls.map (·.length)).sum ≤ ls.length * B
  | [], _ => Nat.zero_le _
  | x :: r, h => by
    have ih := sum_len (ls := r) (fun y hy => h y (.tail _ hy))
    have := h x (.head _)
    rw [List.map_cons, List.sum_cons, List.length_cons, Nat.add_mul, Nat.one_mul]
    omega
theorem rows_each {c : List (Int × Int)} (hk : Kinds c) {n : Nat} (hn : c.length ≤ n) : ∀ y ∈ rowsS c, y.length ≤ 3 * n + 9 := by
  intro y hy
  rw [rowsS_eq hk] at hy
  obtain ⟨x, hx, rfl⟩ := List.mem_map.mp hy
  rw [S_length]
  have := rowLs_len x hx
  omega
theorem rows_count {c : List (Int × Int)} (hk : Kinds c) : (rowsS c).length = c.length := by
  rw [rowsS_eq hk, List.length_map, rowLs_count]
theorem chain_ok {c : List (Int × Int)} (hk : Kinds c) (hd : ∀ x ∈ c, x.1 = 0 ∨ x.1 = 1 ∨ x.1 = 2) (h1 : 1 ≤ c.length) (h7 : c.length ≤ 7) : ChainOk c := by
  have hne : rowLs c ≠ [] := by
    intro h
    have := rowLs_count c
    rw [h] at this
    simp at this
    omega
  refine ⟨h7, h1, hd, hk, ?_, ?_⟩
  · rw [textS_eq hk, oc_crlf, split_rows hne (rowLs_clean hk), rowsS_eq hk]
  · rw [textS_eq hk, S_length]
    have h2 := joinL_len [13, 10] 30 (ls := rowLs c) (fun x hx => by have := rowLs_len x hx; omega)
    rw [rowLs_count] at h2
    have : c.length * (30 + [13, 10].length) ≤ 7 * 32 := Nat.mul_le_mul h7 (by decide)
    omega
theorem all_pure : AllPure := by
  intro c d κ x hc h6 hd h0 h8
  have hk : Kinds c := by
    rcases hc with rfl | hc
    · intro y hy; cases hy
    · exact hc.kind
  have hdeed : ∀ y ∈ c, y.1 = 0 ∨ y.1 = 1 ∨ y.1 = 2 := by
    rcases hc with rfl | hc
    · intro y hy; cases hy
    · exact hc.deed
  have hk' : Kinds (c ++ [(d, κ)]) := hk.snoc h0 h8
  have hl' : (c ++ [(d, κ)]).length = c.length + 1 := by simp
  have hcl := rows_count hk
  have hcl' := rows_count hk'
  have hr1 : ∀ y ∈ rows1 c d, y.length ≤ 40 := by
    intro y hy
    unfold rows1 at hy
    split at hy
    · rw [rowsC_eq hk] at hy
      obtain ⟨z, hz, rfl⟩ := List.mem_map.mp hy
      rw [S_length]
      have := rowLc_len z hz
      omega
    · have := rows_each hk h6 y hy
      omega
  have hr1c : (rows1 c d).length ≤ 6 := by
    unfold rows1
    split
    · rw [List.length_map]; omega
    · omega
  refine ⟨by omega, ?_, ?_, ?_, text_eq hk hd h0 h8 x, chain_ok hk' ?_ (by omega) (by omega), by omega, ?_, ?_, ?_⟩
  · intro y hy
    have := rows_each hk h6 y hy
    omega
  · have h1 := sum_len hr1
    have : (rows1 c d).length * 40 ≤ 6 * 40 := Nat.mul_le_mul_right _ hr1c
    omega
  · obtain ⟨e, he, hl⟩ := laid_eq (d := d) (κ := κ) hk x
    rw [hl]
    have h1 := joinL_len e 40 (ls := laidRows c d κ) (by
      intro z hz
      rcases List.mem_append.mp hz with hz | hz
      · split at hz
        · have := rowLc_len z hz; omega
        · have := rowLs_len z hz; omega
      · rw [List.mem_singleton.mp hz]
        have := bare_len κ
        rw [S_length] at this
        omega)
    have h2 : (laidRows c d κ).length ≤ 7 := by
      unfold laidRows
      rw [List.length_append, List.length_singleton]
      split
      · rw [rowLc_count]; omega
      · rw [rowLs_count]; omega
    have h3 : e.length ≤ 2 := by rcases he with rfl | rfl | rfl <;> decide
    have : (laidRows c d κ).length * (40 + e.length) ≤ 7 * 42 := Nat.mul_le_mul h2 (by omega)
    omega
  · intro y hy
    rcases List.mem_append.mp hy with hy | hy
    · exact hdeed y hy
    · rw [List.mem_singleton.mp hy]; exact hd
  · intro y hy
    have := rows_each (n := 7) hk' (by omega) y hy
    omega
  · have h1 := sum_len (B := 30) (fun y hy => by have := rows_each (n := 7) hk' (by omega) y hy; omega : ∀ y ∈ rowsS (c ++ [(d, κ)]), y.length ≤ 30)
    have : (rowsS (c ++ [(d, κ)])).length * 30 ≤ 7 * 30 := Nat.mul_le_mul_right _ (by omega)
    omega
  · intro k hk2
    rw [rowsS_eq hk'] at hk2 ⊢
    rw [List.length_map] at hk2
    exact ask_row (rowLs_clean hk') hk2
end Mine
end

theorem PySem.Challenge.cw_pk0022_01_holds : PySem.Challenge.rw_pk0022_01.Holds := by
  exact Mine.law_holds Mine.all_pure
