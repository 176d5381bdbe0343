import PyProof.Rows.All
import Wide.All
import OpenK.AllK
import Wide.FinOn
import PySem.Challenge.RW_mj0037_01
set_option Elab.async false

section
open PySem PySem.W PyProof.Rows PySem.Calls
set_option Elab.async false
set_option maxRecDepth 100000
set_option maxHeartbeats 8000000
namespace Mine
theorem plainAttrs_pat : PlainAttrs "re.Pattern" :=
  ⟨⟨"object.__getattribute__", by rw [typeLookup_type, builtinLookup_eq_fast]; kernel_rfl, by decide +kernel⟩, by rw [typeLookup_type, builtinLookup_eq_fast]; kernel_rfl⟩
theorem slot_pat_sub : Slot "re.Pattern" "sub" "re.Pattern.sub" :=
  .of (owner := "re.Pattern") (n := "sub") (by rw [typeLookup_type, builtinLookup_eq_fast]; kernel_rfl) (by decide +kernel) (by decide +kernel) (by decide +kernel)
    (by first | exact .inl (by decide +kernel) | exact .inr (by decide +kernel)) (by rw [isSubtype_type]; kernel_rfl)
theorem slot_pat_search : Slot "re.Pattern" "search" "re.Pattern.search" :=
  .of (owner := "re.Pattern") (n := "search") (by rw [typeLookup_type, builtinLookup_eq_fast]; kernel_rfl) (by decide +kernel) (by decide +kernel) (by decide +kernel)
    (by first | exact .inl (by decide +kernel) | exact .inr (by decide +kernel)) (by rw [isSubtype_type]; kernel_rfl)
theorem type_pat_sub : typeOf (.builtin "re.Pattern.sub") = pure (.type "method_descriptor") := by show builtinType _ = _; rw [builtinType_eq_fast]; kernel_rfl
theorem type_pat_search : typeOf (.builtin "re.Pattern.search") = pure (.type "method_descriptor") := by show builtinType _ = _; rw [builtinType_eq_fast]; kernel_rfl
theorem entry_pat_sub : entryFor table "re.Pattern.sub" = some Builtin.«re.Pattern.sub» := entryFor_of_tree (by kernel_rfl)
theorem entry_pat_search : entryFor table "re.Pattern.search" = some Builtin.«re.Pattern.search» := entryFor_of_tree (by kernel_rfl)
theorem entry_pat_loop : entryFor table "re.Pattern.sub.loop" = some Builtin.«re.Pattern.sub.loop» := entryFor_of_tree (by kernel_rfl)
theorem owner_pat : Manifest.owners.lookup (String.ofList ['n', 'r', 'e', 't', 't', 'a', 'P', '.', 'e', 'r'].reverse) = some Manifest.sig_re_Pattern := by kernel_rfl
theorem args_pat_sub (a b c : Value) : argsOk "re.Pattern.sub" ⟨[a, b, c], []⟩ := by
  unfold argsOk; rw [signature?_of (id := "re.Pattern.sub") (n := ['b', 'u', 's']) (o := ['n', 'r', 'e', 't', 't', 'a', 'P', '.', 'e', 'r']) (by kernel_rfl) owner_pat]; kernel_rfl
theorem args_pat_search (a b : Value) : argsOk "re.Pattern.search" ⟨[a, b], []⟩ := by
  unfold argsOk; rw [signature?_of (id := "re.Pattern.search") (n := ['h', 'c', 'r', 'a', 'e', 's']) (o := ['n', 'r', 'e', 't', 't', 'a', 'P', '.', 'e', 'r']) (by kernel_rfl) owner_pat]; kernel_rfl
theorem plain_pat_loop : plainId "re.Pattern.sub.loop" = true := by decide +kernel
end Mine
end

section
open PySem PySem.W PyProof.Rows PySem.Calls
set_option Elab.async false
set_option maxRecDepth 100000
set_option maxHeartbeats 8000000
namespace Mine
open PySem.Sre

/-- n steps of the machine -/
def stepsN : Nat → Sre.M → Sre.M
  | 0, m => m
  | n + 1, m => stepsN n m.step

theorem stepsN_add (a b : Nat) (m : Sre.M) : stepsN (a + b) m = stepsN b (stepsN a m) := by
  induction a generalizing m with
  | zero => simp [stepsN]
  | succ a ih => rw [Nat.succ_add]; exact ih _

theorem step_done {m : Sre.M} (h : m.outcome.isSome = true) : m.step = m := by
  unfold Sre.M.step; simp [h]

theorem stepsN_done {m : Sre.M} (h : m.outcome.isSome = true) (n : Nat) : stepsN n m = m := by
  induction n with
  | zero => rfl
  | succ n ih => rw [stepsN, step_done h]; exact ih

theorem runFor_eq (n : Nat) (m : Sre.M) : m.runFor n = stepsN n m := by
  induction n generalizing m with
  | zero => rfl
  | succ n ih =>
    unfold Sre.M.runFor stepsN
    split
    · rename_i h; rw [step_done h, stepsN_done h]
    · exact ih _

section
variable {M : Model} {A : Around} {E : Value → Shared → Prop} {s : Shared}

theorem reDrive_of {Q : Sre.M → Shared → Prop} : ∀ (turns : Nat) (m : Sre.M) (n : Nat), n ≤ 4 * turns → 0 < turns → (stepsN n m).outcome.isSome = true → Q (stepsN n m) s →
    wpAny M A (Builtin.Re.reDrive turns m) Q E s
  | 0, _, _, _, h0, _, _ => absurd h0 (Nat.lt_irrefl _)
  | turns + 1, m, n, hn, _, ho, hq => by
    unfold Builtin.Re.reDrive
    dsimp only
    rw [runFor_eq]
    have key : (stepsN Builtin.Re.reTurnSteps m).outcome.isSome = true → stepsN Builtin.Re.reTurnSteps m = stepsN n m := by
      intro h
      show stepsN 4 m = stepsN n m
      rcases Nat.le_total n 4 with hle | hle
      · obtain ⟨k, hk⟩ := Nat.exists_eq_add_of_le hle
        rw [hk, stepsN_add, stepsN_done ho]
      · obtain ⟨k, rfl⟩ := Nat.exists_eq_add_of_le hle
        have h' : (stepsN 4 m).outcome.isSome = true := h
        rw [stepsN_add, stepsN_done h']
    split
    · rename_i h; rw [key h]; exact wpAny_pure hq
    · rename_i h
      refine wpAny_bind (wpAny_rule ?_)
      have hlt : 4 < n := by
        rcases Nat.lt_or_ge 4 n with h1 | h1
        · exact h1
        · exfalso
          obtain ⟨k, hk⟩ := Nat.exists_eq_add_of_le h1
          apply h
          show (stepsN 4 m).outcome.isSome = true
          rw [hk, stepsN_add, stepsN_done ho]; exact ho
      obtain ⟨k, rfl⟩ := Nat.exists_eq_add_of_le (Nat.le_of_lt hlt)
      have e : stepsN (4 + k) m = stepsN k (stepsN Builtin.Re.reTurnSteps m) := stepsN_add 4 k m
      refine reDrive_of turns _ k (by omega) (by omega) (by rw [← e]; exact ho) (by rw [← e]; exact hq)

theorem rulesFor {seen : Sre.Seen} {Q : PUnit → Shared → Prop} (hq : Q ⟨⟩ s) : ∀ (l : List Nat),
    wpAny M A (forIn l PUnit.unit (fun i (_ : PUnit) => (if seen.has i = true then do { rule (Sre.names.getD i ""); pure (ForInStep.yield PUnit.unit) } else pure (ForInStep.yield PUnit.unit) : Sem (ForInStep PUnit)))) Q E s
  | [] => by simp only [List.forIn_nil]; exact wpAny_pure hq
  | i :: l => by
    simp only [List.forIn_cons]
    refine wpAny_bind ?_
    split
    · exact wpAny_bind (wpAny_rule (wpAny_pure (rulesFor hq l)))
    · exact wpAny_pure (rulesFor hq l)

theorem reRunToEnd_of {Q : Option Sre.M → Shared → Prop} {m m' : Sre.M} {n : Nat} (hn : n ≤ 2 ^ 60) (he : stepsN n m = m')
    (h : (m'.outcome = some .matched ∧ Q (some m') s) ∨ (m'.outcome = some .failed ∧ Q none s)) : wpAny M A (Builtin.Re.reRunToEnd m) Q E s := by
  unfold Builtin.Re.reRunToEnd
  have hs : (stepsN n m).outcome.isSome = true := by rw [he]; rcases h with h | h <;> rw [h.1] <;> rfl
  refine wpAny_bind (reDrive_of (2 ^ 64) m n (by omega) (by omega) hs ?_)
  rw [he]
  refine wpAny_bind (wpAny_mono (rulesFor (Q := fun _ s' => s' = s) rfl _) (fun _ s' e => ?_) fun _ _ x => x)
  subst e
  rcases h with ⟨h1, h2⟩ | ⟨h1, h2⟩
  · rw [h1]; exact wpAny_pure h2
  · rw [h1]; exact wpAny_pure h2
end
end Mine
end

section
open PySem
set_option Elab.async false
set_option maxRecDepth 100000
set_option maxHeartbeats 8000000
set_option linter.unusedSimpArgs false
namespace Mine
open PySem.Sre

def code1 : Array Nat := #[14, 4, 0, 1, 1, 6, 1, 16, 46, 1]

abbrev at1 (text : Array Nat) (s : Nat) (o : Bool) (seen : Seen) : Sre.M :=
  { code := code1, text, lim := text.size, start := s, lastStart := text.size, pc := 5, pos := s, handed := s, outermost := o, marks := #[],
    frames := [{ wait := .nextStart, pc := 5, pos := s, outermost := o }], weight := 1, seen }

abbrev BolAt (text : Array Nat) (s : Nat) : Prop := s = 0 ∨ text[s - 1]?.getD 0 = 10
def DotAt (text : Array Nat) (s : Nat) : Prop := BolAt text s ∧ s < text.size ∧ text[s]?.getD 0 = 46

theorem at1_bol {text : Array Nat} {s : Nat} {o : Bool} {seen : Seen} (h : BolAt text s) : ∃ seen', Sre.M.step (at1 text s o seen) = { at1 text s o seen with pc := 7, seen := seen' } := by
  unfold BolAt at h
  refine ⟨(seen.add 6).add 44, ?_⟩
  simp [Sre.M.step, Sre.M.exec, Sre.M.word, code1, ops, Sre.M.isAt, h]
theorem at1_nobol {text : Array Nat} {s : Nat} {o : Bool} {seen : Seen} (h : ¬ BolAt text s) : ∃ seen', Sre.M.step (at1 text s o seen) = { at1 text s o seen with answer := some false, seen := seen' } := by
  unfold BolAt at h
  refine ⟨(seen.add 6).add 44, ?_⟩
  simp [Sre.M.step, Sre.M.exec, Sre.M.word, code1, ops, Sre.M.isAt, h, Sre.M.say]
theorem at1_lit {text : Array Nat} {s : Nat} {o : Bool} {seen : Seen} (h1 : s < text.size) (h2 : text[s]?.getD 0 = 46) :
    ∃ seen', Sre.M.step { at1 text s o seen with pc := 7 } = { at1 text s o seen with pc := 9, pos := s + 1, seen := seen' } := by
  refine ⟨seen.add 16, ?_⟩
  have h1' : ¬ text.size ≤ s := by omega
  have h2' : text[s] = 46 := by simpa [h1] using h2
  simp [Sre.M.step, Sre.M.exec, Sre.M.word, code1, ops, accepts, itemWidth, h1, h1', h2']
theorem at1_nolit {text : Array Nat} {s : Nat} {o : Bool} {seen : Seen} (h : ¬ (s < text.size ∧ text[s]?.getD 0 = 46)) :
    ∃ seen' pc', Sre.M.step { at1 text s o seen with pc := 7 } = { at1 text s o seen with pc := pc', answer := some false, seen := seen' } := by
  refine ⟨seen.add 16, 7, ?_⟩
  by_cases h1 : s < text.size
  · have h1' : ¬ text.size ≤ s := by omega
    have h2' : (text[s] == 46) = false := by simpa [h1] using h
    simp [Sre.M.step, Sre.M.exec, Sre.M.word, code1, ops, accepts, itemWidth, h1, h1', h2', Sre.M.say]
  · have h1' : text.size ≤ s := by omega
    simp [Sre.M.step, Sre.M.exec, Sre.M.word, code1, ops, accepts, itemWidth, h1', Sre.M.say]

/-- a failed attempt goes on to the next place -/
theorem at1_miss_next {text : Array Nat} {s : Nat} {o : Bool} {seen : Seen} {pc' : Nat} (h : s < text.size) :
    Sre.M.step { at1 text s o seen with pc := pc', answer := some false } = at1 text (s + 1) false seen := by
  simp [Sre.M.step, Sre.M.resume, Sre.M.attemptFrom, Sre.M.hasFirstSet, Sre.M.attemptAt, Sre.M.attempt, code1, ops, h]
theorem at1_miss_end {text : Array Nat} {s : Nat} {o : Bool} {seen : Seen} {pc' : Nat} (h : ¬ s < text.size) :
    (stepsN 2 { at1 text s o seen with pc := pc', answer := some false }).outcome = some .failed := by
  simp [stepsN, Sre.M.step, Sre.M.resume, Sre.M.say, h]
theorem at1_success {text : Array Nat} {s : Nat} {o : Bool} {seen : Seen} :
    ∃ m', stepsN 3 { at1 text s o seen with pc := 9, pos := s + 1 } = m' ∧ m'.outcome = some .matched ∧ m'.start = s ∧ m'.handed = s + 1 := by
  refine ⟨_, rfl, ?_⟩
  simp [stepsN, Sre.M.step, Sre.M.exec, Sre.M.word, code1, ops, Sre.M.say, Sre.M.resume]

/-- the first place from s on that is a line's first dot -/
def Found1 (text : Array Nat) (s r : Nat) : Prop := s ≤ r ∧ DotAt text r ∧ ∀ j, s ≤ j → j < r → ¬ DotAt text j
def None1 (text : Array Nat) (s : Nat) : Prop := ∀ j, s ≤ j → ¬ DotAt text j

theorem at1_run (text : Array Nat) : ∀ (k s : Nat) (o : Bool) (seen : Seen), text.size + 1 - s ≤ k → 0 < k →
    ∃ n m', n ≤ 6 * k ∧ stepsN n (at1 text s o seen) = m' ∧
      ((∃ r, Found1 text s r ∧ m'.outcome = some .matched ∧ m'.start = r ∧ m'.handed = r + 1) ∨ (None1 text s ∧ m'.outcome = some .failed))
  | 0, _, _, _, _, h => absurd h (Nat.lt_irrefl _)
  | k + 1, s, o, seen, hk, _ => by
    by_cases hd : DotAt text s
    · obtain ⟨hb, h1, h2⟩ := hd
      obtain ⟨sn1, e1⟩ := at1_bol (o := o) (seen := seen) hb
      obtain ⟨sn2, e2⟩ := at1_lit (o := o) (seen := sn1) h1 h2
      obtain ⟨m', e3, g1, g2, g3⟩ := at1_success (text := text) (s := s) (o := o) (seen := sn2)
      refine ⟨5, m', by omega, ?_, .inl ⟨s, ⟨Nat.le_refl _, ⟨hb, h1, h2⟩, fun j a b => absurd a (by omega)⟩, g1, g2, g3⟩⟩
      show stepsN 3 (Sre.M.step (Sre.M.step (at1 text s o seen))) = m'
      rw [e1, e2, e3]
    · have hmiss : ∃ i sn pc', i ≤ 2 ∧ stepsN i (at1 text s o seen) = { at1 text s o sn with pc := pc', answer := some false } := by
        by_cases hb : BolAt text s
        · obtain ⟨sn1, e1⟩ := at1_bol (o := o) (seen := seen) hb
          obtain ⟨sn2, pc', e2⟩ := at1_nolit (text := text) (s := s) (o := o) (seen := sn1) (fun q => hd ⟨hb, q⟩)
          refine ⟨2, sn2, pc', by omega, ?_⟩
          show Sre.M.step (Sre.M.step (at1 text s o seen)) = _
          rw [e1, e2]
        · obtain ⟨sn1, e1⟩ := at1_nobol (o := o) (seen := seen) hb
          exact ⟨1, sn1, 5, by omega, e1⟩
      obtain ⟨i, sn, pc', hi, e⟩ := hmiss
      by_cases hs : s < text.size
      · obtain ⟨n, m', hn, em, hres⟩ := at1_run text k (s + 1) false sn (by omega) (by omega)
        refine ⟨i + (1 + n), m', by omega, ?_, ?_⟩
        · rw [stepsN_add, e, stepsN_add]
          refine Eq.trans (congrArg (stepsN n) (at1_miss_next hs)) em
        · rcases hres with ⟨r, ⟨a, b, c⟩, g⟩ | ⟨a, g⟩
          · refine .inl ⟨r, ⟨by omega, b, fun j h1 h2 => ?_⟩, g⟩
            rcases Nat.eq_or_lt_of_le h1 with q | q
            · exact q ▸ hd
            · exact c j q h2
          · refine .inr ⟨fun j h1 => ?_, g⟩
            rcases Nat.eq_or_lt_of_le h1 with q | q
            · exact q ▸ hd
            · exact a j q
      · refine ⟨i + 2, _, by omega, rfl, .inr ⟨fun j h1 h2 => ?_, ?_⟩⟩
        · have := h2.2.1; omega
        · rw [stepsN_add, e]; exact at1_miss_end hs

def seen0 : Seen := ({} : Seen).add 14
def fresh0 (code text : Array Nat) (pos lim pc : Nat) : Sre.M := { code, text, lim, start := pos, pc, pos, handed := pos, marks := #[], seen := seen0 }
theorem forSearch_eq (code text : Array Nat) (pos lim : Nat) (h : ((header code).2 == 0) = false) : Sre.forSearch code text 0 pos lim false =
    if pos > lim || lim - pos < (header code).1 then (fresh0 code text pos lim (header code).2).say false
    else { fresh0 code text pos lim (header code).2 with lastStart := if (header code).1 > 1 && !((header code).2 != 0 && code.getD 2 0 &&& 5 != 0) then max pos (lim - ((header code).1 - 1)) else lim }.attemptFrom pos true := by
  have e : seen0 = (if (header code).2 == 0 then ({} : Seen) else ({} : Seen).add 14) := by rw [h]; rfl
  unfold fresh0
  rw [e]
  rfl
theorem search1 (text : Array Nat) (pos : Nat) :
    ∃ n m', n ≤ 6 * (text.size + 2) ∧ stepsN n (Sre.forSearch code1 text 0 pos text.size false) = m' ∧
      ((∃ r, Found1 text pos r ∧ m'.outcome = some .matched ∧ m'.start = r ∧ m'.handed = r + 1) ∨ (None1 text pos ∧ m'.outcome = some .failed)) := by
  by_cases hp : pos < text.size
  · have e : Sre.forSearch code1 text 0 pos text.size false = at1 text pos true seen0 := by
      have h1 : ¬ text.size < pos := by omega
      have h2 : ¬ text.size - pos = 0 := by omega
      rw [forSearch_eq code1 text pos text.size (by decide +kernel)]
      simp [fresh0, Sre.header, code1, ops, h1, h2, Sre.M.attemptFrom, Sre.M.hasFirstSet, Sre.M.attemptAt, Sre.M.attempt]
    rw [e]
    obtain ⟨n, m', a, b, c⟩ := at1_run text (text.size + 2) pos true _ (by omega) (by omega)
    exact ⟨n, m', a, b, c⟩
  · refine ⟨1, _, by omega, rfl, .inr ⟨fun j h1 h2 => ?_, ?_⟩⟩
    · have := h2.2.1; omega
    · have h2 : text.size - pos < 1 := by omega
      have h3 : text.size - pos = 0 := by omega
      rw [forSearch_eq code1 text pos text.size (by decide +kernel)]
      simp [stepsN, fresh0, Sre.header, code1, ops, h3, Sre.M.say, Sre.M.step]
end Mine
end

section
open PySem
set_option Elab.async false
set_option maxRecDepth 100000
set_option maxHeartbeats 8000000
set_option linter.unusedSimpArgs false
namespace Mine
open PySem.Sre

def code2 : Array Nat := #[14, 9, 4, 1, 2, 16, 10, 16, 13, 0, 7, 7, 16, 13, 16, 10, 15, 18, 5, 16, 10, 15, 13, 11, 16, 13, 5, 5, 0, 16, 10, 1, 15, 2, 0, 1]

abbrev at2 (text : Array Nat) (s : Nat) (o : Bool) (seen : Seen) : Sre.M :=
  { code := code2, text, lim := text.size, start := s, lastStart := text.size, pc := 10, pos := s, handed := s, outermost := o, marks := #[],
    frames := [{ wait := .nextStart, pc := 10, pos := s, outermost := o }], weight := 1, seen }

theorem at2_crlf {text : Array Nat} {s : Nat} {o : Bool} {seen : Seen} (h1 : s + 1 < text.size) (h2 : text[s]?.getD 0 = 13) (h3 : text[s + 1]?.getD 0 = 10) :
    ∃ m', stepsN 8 (at2 text s o seen) = m' ∧ m'.outcome = some .matched ∧ m'.start = s ∧ m'.handed = s + 2 := by
  have a1 : ¬ text.size ≤ s := by omega
  have a2 : ¬ text.size ≤ s + 1 := by omega
  have a3 : s < text.size := by omega
  have a4 : text[s] = 13 := by simpa [a3] using h2
  have a5 : text[s + 1] = 10 := by simpa [h1] using h3
  refine ⟨_, rfl, ?_⟩
  simp [stepsN, Sre.M.step, Sre.M.exec, Sre.M.word, code2, ops, accepts, itemWidth, Sre.M.say, Sre.M.resume, Sre.M.alternative, Sre.M.attempt, Sre.M.frame, Sre.M.keep, Sre.M.putBack, a1, a2, a3, a4, a5, h1]

theorem at2_lf {text : Array Nat} {s : Nat} {o : Bool} {seen : Seen} (h1 : s < text.size) (h2 : text[s]?.getD 0 = 10) :
    ∃ m', stepsN 9 (at2 text s o seen) = m' ∧ m'.outcome = some .matched ∧ m'.start = s ∧ m'.handed = s + 1 := by
  have a1 : ¬ text.size ≤ s := by omega
  have a4 : text[s] = 10 := by simpa [h1] using h2
  refine ⟨_, rfl, ?_⟩
  simp [stepsN, Sre.M.step, Sre.M.exec, Sre.M.word, code2, ops, accepts, itemWidth, Sre.M.say, Sre.M.resume, Sre.M.alternative, Sre.M.attempt, Sre.M.frame, Sre.M.keep, Sre.M.putBack, a1, a4, h1]

theorem at2_cr {text : Array Nat} {s : Nat} {o : Bool} {seen : Seen} (h1 : s < text.size) (h2 : text[s]?.getD 0 = 13) (h3 : ¬ (s + 1 < text.size ∧ text[s + 1]?.getD 0 = 10)) :
    ∃ m', stepsN 15 (at2 text s o seen) = m' ∧ m'.outcome = some .matched ∧ m'.start = s ∧ m'.handed = s + 1 := by
  have a1 : ¬ text.size ≤ s := by omega
  have a4 : text[s] = 13 := by simpa [h1] using h2
  refine ⟨_, rfl, ?_⟩
  by_cases h4 : s + 1 < text.size
  · have a2 : ¬ text.size ≤ s + 1 := by omega
    have a5 : (text[s + 1] == 10) = false := by simpa [h4] using h3
    simp [stepsN, Sre.M.step, Sre.M.exec, Sre.M.word, code2, ops, accepts, itemWidth, Sre.M.say, Sre.M.resume, Sre.M.alternative, Sre.M.attempt, Sre.M.frame, Sre.M.keep, Sre.M.putBack, a1, a2, a4, a5, h1, h4]
  · have a2 : text.size ≤ s + 1 := by omega
    simp [stepsN, Sre.M.step, Sre.M.exec, Sre.M.word, code2, ops, accepts, itemWidth, Sre.M.say, Sre.M.resume, Sre.M.alternative, Sre.M.attempt, Sre.M.frame, Sre.M.keep, Sre.M.putBack, a1, a2, a4, h1]

abbrev EolAt (text : Array Nat) (s : Nat) : Prop := s < text.size ∧ (text[s]?.getD 0 = 10 ∨ text[s]?.getD 0 = 13)
abbrev CrLfAt (text : Array Nat) (s : Nat) : Prop := s + 1 < text.size ∧ text[s]?.getD 0 = 13 ∧ text[s + 1]?.getD 0 = 10
def Found2 (text : Array Nat) (s r : Nat) : Prop := s ≤ r ∧ EolAt text r ∧ ∀ j, s ≤ j → j < r → ¬ EolAt text j
def None2 (text : Array Nat) (s : Nat) : Prop := ∀ j, s ≤ j → ¬ EolAt text j

theorem inSet2 (c : Nat) (seen : Seen) : ∃ seen', inSet code2 c code2.size 5 true seen = .ok (decide (c = 10 ∨ c = 13), seen') := by
  by_cases h1 : c = 10
  · exact ⟨seen.add 16, by simp [inSet, code2, ops, h1]⟩
  · by_cases h2 : c = 13
    · exact ⟨(seen.add 16).add 16, by simp [inSet, code2, ops, h1, h2]⟩
    · exact ⟨((seen.add 16).add 16).add 0, by simp [inSet, code2, ops, h1, h2]⟩

theorem admitted2 (m : Sre.M) (hc : m.code = code2) (hl : m.lim = m.text.size) : ∀ (fuel s : Nat) (seen : Seen), m.text.size + 1 - s ≤ fuel →
    (∃ r seen', Sre.M.admitted m fuel s seen = .ok (some r, seen') ∧ Found2 m.text s r) ∨ (∃ seen', Sre.M.admitted m fuel s seen = .ok (none, seen') ∧ None2 m.text s)
  | 0, s, seen, h => .inr ⟨seen, rfl, fun j h1 h2 => by have := h2.1; omega⟩
  | fuel + 1, s, seen, h => by
    by_cases hs : s ≥ m.text.size
    · refine .inr ⟨seen, ?_, fun j h1 h2 => by have := h2.1; omega⟩
      unfold Sre.M.admitted
      rw [hl, if_pos hs]
    · obtain ⟨sn, e⟩ := inSet2 (m.text.getD s 0) seen
      by_cases hd : EolAt m.text s
      · have hb : (decide (m.text.getD s 0 = 10 ∨ m.text.getD s 0 = 13)) = true := by simpa using hd.2
        rw [hb] at e
        refine .inl ⟨s, sn, ?_, Nat.le_refl _, hd, fun j a b => absurd a (by omega)⟩
        unfold Sre.M.admitted
        rw [hl, if_neg hs, hc, e]
      · have hb : (decide (m.text.getD s 0 = 10 ∨ m.text.getD s 0 = 13)) = false := by
          have : s < m.text.size := by omega
          have q : ¬ (m.text[s]?.getD 0 = 10 ∨ m.text[s]?.getD 0 = 13) := fun q => hd ⟨this, q⟩
          simpa using q
        rw [hb] at e
        have step : Sre.M.admitted m (fuel + 1) s seen = Sre.M.admitted m fuel (s + 1) sn := by
          rw [Sre.M.admitted, hl, if_neg hs, hc, e]
        rcases admitted2 m hc hl fuel (s + 1) sn (by omega) with ⟨r, sn', e', a, b, c⟩ | ⟨sn', e', a⟩
        · refine .inl ⟨r, sn', by rw [step, e'], by omega, b, fun j h1 h2 => ?_⟩
          rcases Nat.eq_or_lt_of_le h1 with q | q
          · exact q ▸ hd
          · exact c j q h2
        · refine .inr ⟨sn', by rw [step, e'], fun j h1 => ?_⟩
          rcases Nat.eq_or_lt_of_le h1 with q | q
          · exact q ▸ hd
          · exact a j q

theorem search2 (text : Array Nat) (pos : Nat) :
    ∃ n m', n ≤ 20 ∧ stepsN n (Sre.forSearch code2 text 0 pos text.size false) = m' ∧
      ((∃ r, Found2 text pos r ∧ m'.outcome = some .matched ∧ m'.start = r ∧ m'.handed = if CrLfAt text r then r + 2 else r + 1) ∨ (None2 text pos ∧ m'.outcome = some .failed)) := by
  rw [forSearch_eq code2 text pos text.size (by decide +kernel)]
  have hh : header code2 = (1, 10) := by decide +kernel
  rw [hh]
  by_cases hp : pos < text.size
  · have h1 : ¬ text.size < pos := by omega
    have h2 : ¬ text.size - pos = 0 := by omega
    have e1 : ((decide (pos > text.size) || decide (text.size - pos < (1, 10).1)) = true) = False := by simp [h1, h2]
    rw [if_neg (by rw [e1]; exact id)]
    have e2 : (if ((decide ((1, 10).1 > 1) && !((1, 10).2 != 0 && code2.getD 2 0 &&& 5 != 0)) = true) then max pos (text.size - ((1, 10).1 - 1)) else text.size) = text.size := by
      rw [if_neg (by decide +kernel)]
    rw [e2]
    have hf : Sre.M.hasFirstSet { fresh0 code2 text pos text.size 10 with lastStart := text.size } = true := by
      simp [Sre.M.hasFirstSet, fresh0, code2, ops]
    rcases admitted2 { fresh0 code2 text pos text.size 10 with lastStart := text.size } rfl rfl (text.size + 1 - pos) pos seen0 (Nat.le_refl _) with ⟨r, sn, e, F⟩ | ⟨sn, e, F⟩
    · have ea : Sre.M.attemptFrom { fresh0 code2 text pos text.size 10 with lastStart := text.size } pos true = at2 text r true sn := by
        unfold Sre.M.attemptFrom
        rw [hf]
        show (match Sre.M.admitted { fresh0 code2 text pos text.size 10 with lastStart := text.size } (text.size + 1 - pos) pos seen0 with
          | .ok (some s, seen) => Sre.M.attemptAt { { fresh0 code2 text pos text.size 10 with lastStart := text.size } with mustAdvance := false, seen } s true
          | .ok (none, seen) => Sre.M.say { { fresh0 code2 text pos text.size 10 with lastStart := text.size } with seen } false
          | .error why => Sre.M.stick { fresh0 code2 text pos text.size 10 with lastStart := text.size } why) = _
        rw [e]
        simp [Sre.M.attemptAt, Sre.M.attempt, fresh0]
      rw [ea]
      have F' : Found2 text pos r := F
      obtain ⟨h3, h4⟩ := F'.2.1
      by_cases hc : CrLfAt text r
      · obtain ⟨m', g1, g2⟩ := at2_crlf (o := true) (seen := sn) hc.1 hc.2.1 hc.2.2
        exact ⟨8, m', by omega, g1, .inl ⟨r, F', by rw [if_pos hc]; exact g2⟩⟩
      · rcases h4 with h4 | h4
        · obtain ⟨m', g1, g2⟩ := at2_lf (o := true) (seen := sn) h3 h4
          exact ⟨9, m', by omega, g1, .inl ⟨r, F', by rw [if_neg hc]; exact g2⟩⟩
        · obtain ⟨m', g1, g2⟩ := at2_cr (o := true) (seen := sn) h3 h4 (fun q => hc ⟨q.1, h4, q.2⟩)
          exact ⟨15, m', by omega, g1, .inl ⟨r, F', by rw [if_neg hc]; exact g2⟩⟩
    · have ea : Sre.M.attemptFrom { fresh0 code2 text pos text.size 10 with lastStart := text.size } pos true = Sre.M.say { fresh0 code2 text pos text.size 10 with lastStart := text.size, seen := sn } false := by
        unfold Sre.M.attemptFrom
        rw [hf]
        show (match Sre.M.admitted { fresh0 code2 text pos text.size 10 with lastStart := text.size } (text.size + 1 - pos) pos seen0 with
          | .ok (some s, seen) => Sre.M.attemptAt { { fresh0 code2 text pos text.size 10 with lastStart := text.size } with mustAdvance := false, seen } s true
          | .ok (none, seen) => Sre.M.say { { fresh0 code2 text pos text.size 10 with lastStart := text.size } with seen } false
          | .error why => Sre.M.stick { fresh0 code2 text pos text.size 10 with lastStart := text.size } why) = _
        rw [e]
      rw [ea]
      refine ⟨1, _, by omega, rfl, .inr ⟨F, ?_⟩⟩
      simp [stepsN, fresh0, Sre.M.say, Sre.M.step]
  · refine ⟨1, _, by omega, rfl, .inr ⟨fun j h1 h2 => ?_, ?_⟩⟩
    · have := h2.1; omega
    · have h3 : text.size - pos = 0 := by omega
      simp [stepsN, fresh0, h3, Sre.M.say, Sre.M.step]

/-- the third pattern: a control sign -/
def code3 : Array Nat := #[14, 14, 4, 1, 1, 9, 4294957567, 0, 0, 0, 0, 0, 0, 0, 0, 13, 11, 9, 4294957567, 0, 0, 0, 0, 0, 0, 0, 0, 1]

def Plain (c : Nat) : Prop := c = 9 ∨ c = 10 ∨ c = 13 ∨ 32 ≤ c

theorem inSet3 (c : Nat) (hc : Plain c) (seen : Seen) : ∃ seen', inSet code3 c code3.size 5 true seen = .ok (false, seen') := by
  refine ⟨(seen.add 9).add 0, ?_⟩
  have key : (decide (c < 256) && (code3.getD (5 + (1 + c / 32)) 0).testBit (c % 32)) = false := by
    by_cases h : c < 256
    · have : ∀ c, c < 256 → (c = 9 ∨ c = 10 ∨ c = 13 ∨ 32 ≤ c) → (decide (c < 256) && (code3.getD (5 + (1 + c / 32)) 0).testBit (c % 32)) = false := by decide +kernel
      exact this c h hc
    · simp [h]
  have e0 : code3.size = 27 + 1 := by decide +kernel
  rw [e0]
  unfold inSet
  dsimp only
  have w0 : code3.getD (5 + 0) 0 = 9 := by decide +kernel
  rw [w0, show ops[9]? = some Op.CHARSET from rfl]
  show (if (decide (c < 256) && (code3.getD (5 + (1 + c / 32)) 0).testBit (c % 32)) = true then _ else _) = _
  rw [key, if_neg Bool.false_ne_true]
  have w1 : code3.getD 14 0 = 0 := by decide +kernel
  unfold inSet
  dsimp only
  rw [w1, show ops[0]? = some Op.FAILURE from rfl]
  rfl

theorem admitted3 (m : Sre.M) (hc : m.code = code3) (hl : m.lim = m.text.size) (ht : ∀ j, j < m.text.size → Plain (m.text.getD j 0)) : ∀ (fuel s : Nat) (seen : Seen),
    ∃ seen', Sre.M.admitted m fuel s seen = .ok (none, seen')
  | 0, s, seen => ⟨seen, rfl⟩
  | fuel + 1, s, seen => by
    by_cases hs : s ≥ m.text.size
    · exact ⟨seen, by unfold Sre.M.admitted; rw [hl, if_pos hs]⟩
    · obtain ⟨sn, e⟩ := inSet3 (m.text.getD s 0) (ht s (by omega)) seen
      obtain ⟨sn', e'⟩ := admitted3 m hc hl ht fuel (s + 1) sn
      exact ⟨sn', by rw [Sre.M.admitted, hl, if_neg hs, hc, e]; exact e'⟩

theorem search3 (text : Array Nat) (pos : Nat) (ht : ∀ j, j < text.size → Plain (text.getD j 0)) :
    (stepsN 1 (Sre.forSearch code3 text 0 pos text.size false)).outcome = some .failed := by
  rw [forSearch_eq code3 text pos text.size (by decide +kernel)]
  have hh : header code3 = (1, 15) := by decide +kernel
  rw [hh]
  split
  · simp [stepsN, fresh0, Sre.M.say, Sre.M.step]
  · have hf : ∀ k, Sre.M.hasFirstSet { fresh0 code3 text pos text.size 15 with lastStart := k } = true := by
      intro k; simp [Sre.M.hasFirstSet, fresh0, code3, ops]
    generalize (if (decide ((1, 15).1 > 1) && !((1, 15).2 != 0 && code3.getD 2 0 &&& 5 != 0)) = true then max pos (text.size - ((1, 15).1 - 1)) else text.size) = k
    obtain ⟨sn, e⟩ := admitted3 { fresh0 code3 text pos text.size 15 with lastStart := k } rfl rfl ht (text.size + 1 - pos) pos seen0
    have ea : Sre.M.attemptFrom { fresh0 code3 text pos text.size 15 with lastStart := k } pos true = Sre.M.say { fresh0 code3 text pos text.size 15 with lastStart := k, seen := sn } false := by
      unfold Sre.M.attemptFrom
      rw [hf]
      show (match Sre.M.admitted { fresh0 code3 text pos text.size 15 with lastStart := k } (text.size + 1 - pos) pos seen0 with
        | .ok (some s, seen) => Sre.M.attemptAt { { fresh0 code3 text pos text.size 15 with lastStart := k } with mustAdvance := false, seen } s true
        | .ok (none, seen) => Sre.M.say { { fresh0 code3 text pos text.size 15 with lastStart := k } with seen } false
        | .error why => Sre.M.stick { fresh0 code3 text pos text.size 15 with lastStart := k } why) = _
      rw [e]
    rw [ea]
    simp [stepsN, fresh0, Sre.M.say, Sre.M.step]
end Mine
end

section
open PySem PySem.Calls PyProof.Rows
set_option Elab.async false
set_option maxRecDepth 100000
set_option maxHeartbeats 8000000
namespace Mine
open PySem.Builtin.Re

def IsPat (h : Heap) (a : Addr) (code : Array Nat) : Prop :=
  ∃ (tu : Addr) (p f : Value) (items : Array Value) (n : Nat) (o ot : Obj), h.get? a = some o ∧ o.cls = .type "re.Pattern" ∧ o.dict = none ∧ o.data = .fields #[p, f, .int 0 0, .none, .none, .ref tu, .int 0 0] ∧
    h.get? tu = some ot ∧ ot.cls = .type "tuple" ∧ ot.data = .seq items n ∧ (items.map reRawOf).map (·.toNat) = code

theorem IsPat.mono {h h' : Heap} {a : Addr} {code : Array Nat} (p : IsPat h a code) (k : ∀ b o, h.get? b = some o → h'.get? b = some o) : IsPat h' a code := by
  obtain ⟨tu, p, f, items, n, o, ot, h1, h2, h3, h4, h5, h6⟩ := p
  exact ⟨tu, p, f, items, n, o, ot, k _ _ h1, h2, h3, h4, k _ _ h5, h6⟩

section
variable {M : Model} {A : Around} {E : Value → Shared → Prop} {s : Shared} {a : Addr} {code : Array Nat} {x : Str} {t : Tok}

abbrev target (a : Addr) (x : Str) (t : Tok) (code : Array Nat) : ReTarget := { pattern := .ref a, string := .str x t, code, text := x.cps, kind := 0, groups := 0, pos := 0, lim := x.cps.size }

theorem wp_whole {Q : ReTarget → Shared → Prop} (hp : IsPat s.heap a code) (h : Q (target a x t code) s) : wpAny M A (reWholeTarget (.ref a) (.str x t)) Q E s := by
  obtain ⟨tu, p, f, items, n, o, ot, h1, h2, h3, h4, h5, h5c, h6, h7⟩ := hp
  unfold reWholeTarget
  refine wpAny_bind (wpAny_fieldsOf h1 h4 ?_)
  refine wpAny_bind (wpAny_pure (a := (x.cps, 0)) ?_)
  refine wpAny_bind (wpAny_pure ?_)
  refine wpAny_bind ?_
  unfold reRawItems
  refine wpAny_bind (wpAny_seqItems h5 h6 ?_)
  refine wpAny_pure ?_
  refine wpAny_pure ?_
  subst h7
  exact h

theorem wp_target {Q : ReTarget → Shared → Prop} (hp : IsPat s.heap a code) (h : Q (target a x t code) s) (hx : x.cps.size < 2 ^ 62) : wpAny M A (reTarget "re.Pattern.search" "search" ⟨[.ref a, .str x t], []⟩) Q E s := by
  obtain ⟨tu, p, f, items, n, o, ot, h1, h2, h3, h4, h5, h5c, h6, h7⟩ := hp
  unfold reTarget
  refine wpAny_bind (wpAny_pure (a := [some (Value.str x t), none, none]) ?_)
  refine wpAny_bind (wpAny_pure (a := (0 : Int)) ?_)
  refine wpAny_bind (wpAny_pure (a := ((2 ^ 63 - 1 : Int))) ?_)
  refine wpAny_bind (wpAny_fieldsOf h1 h4 ?_)
  refine wpAny_bind (wpAny_pure (a := (x.cps, 0)) ?_)
  refine wpAny_bind (wpAny_pure ?_)
  refine wpAny_bind ?_
  unfold reRawItems
  refine wpAny_bind (wpAny_seqItems h5 h6 ?_)
  refine wpAny_pure ?_
  refine wpAny_pure ?_
  subst h7
  have e1 : min ((0 : Int).toNat) x.cps.size = 0 := by simp
  have e2 : min (((2 ^ 63 - 1 : Int)).toNat) x.cps.size = x.cps.size := by
    have : ((2 ^ 63 - 1 : Int)).toNat = 9223372036854775807 := by decide +kernel
    rw [this]; omega
  show Q { pattern := .ref a, string := .str x t, code := _, text := x.cps, kind := 0, groups := 0, pos := min ((0 : Int).toNat) x.cps.size, lim := min (((2 ^ 63 - 1 : Int)).toNat) x.cps.size } s
  rw [e1, e2]
  exact h
end

section
variable {prog : Program} {w : World} {A : Around} {E : Value → Shared → Prop} {s : Shared} {a : Addr} {code : Array Nat} {x : Str} {t : Tok}

theorem IsPat.typeIs (hp : IsPat s.heap a code) : s.TypeIs (.ref a) "re.Pattern" := by
  obtain ⟨tu, p, f, items, n, o, ot, h1, h2, _⟩ := hp
  exact ⟨o, h1, h2⟩

theorem getMethod_pat_sub {M : Model} {pl : Sem Bool} {Q : Value × List Value → Shared → Prop} (hp : IsPat s.heap a code) (h : Q (.builtin "re.Pattern.sub", [.ref a]) s) : wpAny M A (getMethod (.ref a) (Str.ofString "sub") pl) Q E s := by
  refine getMethod_builtin hp.typeIs plainAttrs_pat slot_pat_sub type_pat_sub (fun b hb => ?_) h
  obtain ⟨tu, p, f, items, n, o, ot, h1, h2, h3, _⟩ := hp
  cases hb
  exact ⟨o, h1, h3⟩
theorem getMethod_pat_search {M : Model} {pl : Sem Bool} {Q : Value × List Value → Shared → Prop} (hp : IsPat s.heap a code) (h : Q (.builtin "re.Pattern.search", [.ref a]) s) : wpAny M A (getMethod (.ref a) (Str.ofString "search") pl) Q E s := by
  refine getMethod_builtin hp.typeIs plainAttrs_pat slot_pat_search type_pat_search (fun b hb => ?_) h
  obtain ⟨tu, p, f, items, n, o, ot, h1, h2, h3, _⟩ := hp
  cases hb
  exact ⟨o, h1, h3⟩

theorem call_search3 {Q : Value → Shared → Prop} (hp : IsPat s.heap a code3) (hx : x.length ≤ 2 ^ 22) (ht : ∀ j, j < x.cps.size → Plain (x.cps.getD j 0)) (h : Q .none s) :
    wpAny (model prog w) A (call (.builtin "re.Pattern.search") [.ref a, .str x t]) Q E s := by
  have hx' : x.cps.size ≤ 2 ^ 22 := hx
  refine wpAny_call_entry slot_pat_search hp.typeIs entry_pat_search ?_ (args_pat_search _ _)
  unfold Builtin.«re.Pattern.search»
  refine wpAny_bind (wp_target hp ?_ (by omega))
  unfold reAnswer
  refine wpAny_bind (reRunToEnd_of (n := 1) (by decide) rfl (.inr ⟨search3 x.cps 0 ht, ?_⟩))
  exact wpAny_pure ⟨_, rfl, h⟩
end
end Mine
end

section
open PySem
set_option Elab.async false
set_option maxRecDepth 100000
set_option maxHeartbeats 8000000
set_option linter.unusedSimpArgs false
namespace Mine

def joinL (sep : List Nat) : List (List Nat) → List Nat
  | [] => []
  | [x] => x
  | x :: y :: r => x ++ sep ++ joinL sep (y :: r)

theorem joinL_cons {sep x : List Nat} {r : List (List Nat)} (h : r ≠ []) : joinL sep (x :: r) = x ++ sep ++ joinL sep r := by
  cases r with
  | nil => exact absurd rfl h
  | cons y r => rfl

theorem join_toList (sep : Str) : ∀ ys : List Str, (Txt.join sep ys).cps.toList = joinL sep.cps.toList (ys.map (·.cps.toList)) := by
  intro ys
  show (Builtin.Str.glued sep ys).cps.toList = _
  rw [StrLaws.glued_eq_join]
  induction ys with
  | nil => rfl
  | cons x r ih =>
    cases r with
    | nil => rfl
    | cons y r =>
      show (x ++ sep ++ Str.join sep (y :: r)).cps.toList = _
      rw [Str.cps_append, Str.cps_append, Array.toList_append, Array.toList_append, ih]
      rfl

theorem joinL_nil : ∀ l : List (List Nat), joinL [] l = l.flatten
  | [] => rfl
  | [x] => by simp [joinL]
  | x :: y :: r => by rw [joinL, joinL_nil (y :: r)]; simp

theorem str_ext {a b : Str} (h : a.cps.toList = b.cps.toList) : a = b := Str.ext' (Array.toList_inj.mp h)

end Mine
end

section
open PySem PySem.Calls PyProof.Rows
set_option Elab.async false
set_option maxRecDepth 100000
set_option maxHeartbeats 8000000
set_option linter.unusedVariables false
namespace Mine
open PySem.Builtin.Re

theorem str_nocall : typeLookup (.type "str") (Str.ofString "__call__") = pure none := by rw [typeLookup_type, builtinLookup_eq_fast]; kernel_rfl

/-- what a substitution makes of the text from d on -/
inductive SubTo (Fd : Nat → Nat → Nat → Prop) (Nn : Nat → Prop) (text repl : Array Nat) : Nat → List Nat → Prop
  | none {d : Nat} : Nn d → SubTo Fd Nn text repl d (text.extract d text.size).toList
  | some {d r e : Nat} {out : List Nat} : Fd d r e → SubTo Fd Nn text repl e out → SubTo Fd Nn text repl d ((text.extract d r).toList ++ repl.toList ++ out)

def glue (ys : List Str) : List Nat := ys.flatMap fun y => y.cps.toList

structure Finds (code : Array Nat) (text : Array Nat) (Fd : Nat → Nat → Nat → Prop) (Nn : Nat → Prop) : Prop where
  run : ∀ d, ∃ n m', n ≤ 2 ^ 60 ∧ stepsN n (Sre.forSearch code text 0 d text.size false) = m' ∧
      ((∃ r e, Fd d r e ∧ m'.outcome = some .matched ∧ m'.start = r ∧ m'.handed = e) ∨ (Nn d ∧ m'.outcome = some .failed))
  ord : ∀ d r e, Fd d r e → d ≤ r ∧ r < e ∧ e ≤ text.size

section
variable {prog : Program} {w : World} {A : Around} {E : Value → Shared → Prop} {s : Shared} {a : Addr} {code : Array Nat} {x : Str} {t : Tok}

theorem strs_snoc' {us : List Value} {ws : List Str} {x : Str} {t : Tok} (h : StrsAre us ws) : StrsAre (us ++ [.str x t]) (ws ++ [x]) := h.append' (.cons _ _ .nil)

def listObj (vs : Array Value) (n : Nat) : Obj := { cls := .type "list", data := .seq vs n }

theorem upd_list {h : Heap} {l : Addr} {vs : List Value} {nl : Nat} (hl : h.get? l = some (listObj vs.toArray nl)) (v : Value) :
    ∃ nl', (h.update l (Obj.mapSeq fun x => x.push v)).get? l = some (listObj (vs ++ [v]).toArray nl') := by
  have := Heap.get?_update_self (Obj.mapSeq fun x => x.push v) hl rfl
  have e : ∃ k, Obj.mapSeq (fun x => x.push v) (listObj vs.toArray nl) = listObj (vs.toArray.push v) k := ⟨_, rfl⟩
  obtain ⟨k, e⟩ := e
  refine ⟨k, this.trans ?_⟩
  rw [e, List.push_toArray]

theorem upd_pat {h : Heap} {l : Addr} {vs : List Value} {nl : Nat} (hl : h.get? l = some (listObj vs.toArray nl)) (f : Obj → Obj) (hp : IsPat h a code) : IsPat (h.update l f) a code := by
  obtain ⟨tu, p, g, items, n, o, ot, h1, h2, h3, h4, h5, h5c, h6⟩ := hp
  have n1 : l ≠ a := by rintro rfl; rw [hl] at h1; cases h1; exact absurd h2 (by simp [listObj])
  have n2 : l ≠ tu := by rintro rfl; rw [hl] at h5; cases h5; exact absurd h5c (by simp [listObj])
  exact ⟨tu, p, g, items, n, o, ot, (Heap.get?_update_other h f n1).trans h1, h2, h3, h4, (Heap.get?_update_other h f n2).trans h5, h5c, h6⟩

theorem glue_snoc (ys : List Str) (y : Str) : glue (ys ++ [y]) = glue ys ++ y.cps.toList := by simp [glue]
theorem glue_len (ys : List Str) : (ys.map (·.length)).sum = (glue ys).length := by
  induction ys with
  | nil => rfl
  | cons y ys ih => simp only [List.map_cons, List.sum_cons, ih, glue, List.flatMap_cons, List.length_append]; rfl
theorem join_nil (ys : List Str) : Txt.join ⟨#[]⟩ ys = ⟨(glue ys).toArray⟩ := by
  refine str_ext ?_
  rw [join_toList]
  show joinL [] _ = _
  rw [joinL_nil]
  simp [glue, List.flatMap]

theorem slice_len (x : Array Nat) (d e : Nat) : (⟨x.extract d e⟩ : Str).length ≤ x.size := by
  show (x.extract d e).size ≤ x.size
  simp; omega

theorem strsAre_length {vs : List Value} {ys : List Str} (h : StrsAre vs ys) : vs.length = ys.length := by
  induction h with
  | nil => rfl
  | cons y t _ ih => simp [ih]

theorem sub_done {r : Str} {R : Result → Shared → Prop} {cnt : Int} {h : Heap} {tk : Nat} {l : Addr} {vs : List Value} {ys : List Str} {nl : Nat} {out : List Nat}
    (hl : h.get? l = some (listObj vs.toArray nl)) (hvs : StrsAre vs ys) (hb : (glue ys).length ≤ 2 ^ 23) (ho : glue ys = out)
    (hR : ∀ t' tk', R (.ok (.ret (.str ⟨out.toArray⟩ t'))) { s with heap := h, toks := tk' }) :
    wpAny (model prog w) A.in1 (do
      let joiner ← reSlice x.cps 0 0 0
      let __do_lift ← seqItems? (Value.ref l)
      if (__do_lift.getD #[]).isEmpty = true then do
          let text ← pure joiner
          if false = true then do
              let __do_lift ←
                holding [text] do
                    let __do_lift ← mkInt cnt
                    newTuple [text, __do_lift]
              ret __do_lift
            else ret text
        else do
          let text ← call (Value.builtin (if (0 == 0) = true then "str.join" else "bytes.join")) [joiner, Value.ref l]
          if false = true then do
              let __do_lift ←
                holding [text] do
                    let __do_lift ← mkInt cnt
                    newTuple [text, __do_lift]
              ret __do_lift
            else ret text)
      (fun fin s' =>
        match fin with
        | Fin.done f => R (Except.ok f) s'
        | Fin.again c' => c'.quiet = true ∧ codeAny (model prog w) A c' R s')
      (fun e s' => R (Except.error e) s') { s with heap := h, toks := tk } := by
  have e0 : x.cps.extract 0 0 = #[] := by simp
  unfold reSlice
  rw [e0]
  refine wpAny_bind (wpAny_mkStr (x := ⟨#[]⟩) ?_ (Nat.zero_le _))
  refine wpAny_bind (wpAny_seqItems (a := l) hl rfl ?_)
  show wpAny _ _ (if vs.toArray.isEmpty = true then _ else _) _ _ _
  split
  · rename_i hemp
    have : vs = [] := by simpa using hemp
    subst this
    cases hvs
    subst ho
    exact wpAny_bind (wpAny_pure (wpAny_pure (hR _ _)))
  · refine wpAny_bind ?_
    show wpAny _ _ (call (Value.builtin "str.join") [_, Value.ref l]) _ _ _
    refine join_list (items := vs.toArray) (ys := ys) ⟨_, hl, rfl, _, rfl⟩ (by simpa using hvs) ?_ fun t' k => ?_
    · rw [glue_len]
      show _ + _ * 0 ≤ _
      omega
    · rw [join_nil, ho]
      exact wpAny_pure (hR _ _)

theorem sub_loop {Fd : Nat → Nat → Nat → Prop} {Nn : Nat → Prop} {r : Str} {tr : Tok} {R : Result → Shared → Prop} (hx : x.cps.size ≤ 2 ^ 20) (hr : r.cps.size ≤ 2) (F : Finds code x.cps Fd Nn) :
    ∀ (k d cnt : Nat) (h : Heap) (tk : Nat) (l : Addr) (vs : List Value) (ys : List Str) (nl : Nat), x.cps.size - d < k → d ≤ x.cps.size →
      h.get? l = some (listObj vs.toArray nl) → StrsAre vs ys → (glue ys).length ≤ 3 * d → ys.length ≤ 2 * d →
      IsPat h a code →
      (∀ h' tk' out, SubTo Fd Nn x.cps r.cps d out → (∀ b o, b ≠ l → h.get? b = some o → h'.get? b = some o) → ∀ t', R (.ok (.ret (.str ⟨(glue ys ++ out).toArray⟩ t'))) { s with heap := h', toks := tk' }) →
      codeAny (model prog w) A (.builtin "re.Pattern.sub.loop" ⟨[.ref a, .str x t, .str r tr, rawInt 0, rawInt 0, rawInt cnt, rawInt d, rawInt d, .bool false, .ref l, .bool false], []⟩) R { s with heap := h, toks := tk } := by
  intro k
  induction k with
  | zero => intro d cnt h tk l vs ys nl hk; exact absurd hk (Nat.not_lt_zero _)
  | succ k ih =>
    intro d cnt h tk l vs ys nl hk hd hl hvs hg1 hg2 hp hR
    have hz : sizeLine = 16777216 := by decide
    have hvl := strsAre_length hvs
    refine codeAny_builtin entry_pat_loop ?_
    rw [Around.under_plainId plain_pat_loop]
    unfold Builtin.«re.Pattern.sub.loop»
    refine wpAny_bind (wp_whole hp ?_)
    refine wpAny_bind (wpAny_pure ?_)
    refine wpAny_bind ?_
    obtain ⟨n, m', hn, he, hcase⟩ := F.run d
    rcases hcase with ⟨r0, e0, hF, o1, o2, o3⟩ | ⟨hN, o1⟩
    · refine reRunToEnd_of hn he (.inl ⟨o1, ?_⟩)
      obtain ⟨g1, g2, g3⟩ := F.ord _ _ _ hF
      dsimp only
      rw [o2, o3]
      have ed : ((d : Int)).toNat = d := Int.toNat_natCast d
      rw [ed]
      have eb : (e0 == r0) = false := by simp; omega
      rw [eb]
      have fin : ∀ (h1 : Heap) (tk1 : Nat) (vs1 : List Value) (ys1 : List Str) (nl1 : Nat), h1.get? l = some (listObj vs1.toArray nl1) → StrsAre vs1 ys1 → glue ys1 = glue ys ++ (x.cps.extract d r0).toList → ys1.length ≤ 2 * d + 1 →
          IsPat h1 a code → (∀ b o, b ≠ l → h.get? b = some o → h1.get? b = some o) →
          wpAny (model prog w) A.in1 (do
            updateSeq l fun x => x.push (Value.str r tr)
            again (Code.builtin "re.Pattern.sub.loop" { pos := [Value.ref a, Value.str x t, Value.str r tr, rawInt 0, rawInt 0, rawInt (↑cnt + 1), rawInt ↑e0, rawInt ↑e0, Value.bool false, Value.ref l, Value.bool false] }))
            (fun fin s' => match fin with | Fin.done f => R (Except.ok f) s' | Fin.again c' => c'.quiet = true ∧ codeAny (model prog w) A c' R s')
            (fun e s' => R (Except.error e) s') { s with heap := h1, toks := tk1 } := by
        intro h1 tk1 vs1 ys1 nl1 hl1 hvs1 hglue hlen hp1 hkeep
        have hvl1 := strsAre_length hvs1
        refine wpAny_bind (wpAny_updateSeq (a := l) (o := listObj vs1.toArray nl1) (xs := vs1.toArray) hl1 rfl ?_ (by simp; omega) (by simp; omega))
        refine wpAny_pure ⟨plainId_quiet plain_pat_loop _, ?_⟩
        obtain ⟨nl2, hl2⟩ := upd_list hl1 (Value.str r tr)
        have hgl : (glue ys ++ (x.cps.extract d r0).toList ++ r.cps.toList).length ≤ 3 * e0 := by
          simp only [List.length_append, Array.length_toList, Array.size_extract]
          omega
        have := ih e0 (cnt + 1) (h1.update l (Obj.mapSeq fun x => x.push (Value.str r tr))) tk1 l (vs1 ++ [.str r tr]) (ys1 ++ [r]) nl2 (by omega) g3 hl2 (strs_snoc' hvs1)
          (by rw [glue_snoc, hglue]; exact hgl)
          (by simp; omega) (upd_pat hl1 _ hp1) ?_
        · exact this
        · intro h' tk' out hsub hk' t'
          rw [glue_snoc, hglue]
          have := hR h' tk' _ (SubTo.some hF hsub) (fun b o hb hbo => hk' b o hb ((Heap.get?_update_other h1 _ (Ne.symm hb)).trans (hkeep b o hb hbo))) t'
          simpa [List.append_assoc] using this
      split
      · rename_i hlt
        unfold reSlice
        refine wpAny_bind (wpAny_mkStr (x := ⟨x.cps.extract d r0⟩) ?_ (Nat.le_trans (slice_len _ _ _) (by omega)))
        refine wpAny_bind (wpAny_updateSeq (a := l) (o := listObj vs.toArray nl) (xs := vs.toArray) hl rfl ?_ (by simp; omega) (by simp; omega))
        obtain ⟨nl2, hl2⟩ := upd_list hl (Value.str ⟨x.cps.extract d r0⟩ tk)
        exact fin _ _ _ _ nl2 hl2 (strs_snoc' hvs) (glue_snoc _ _) (by simp; omega) (upd_pat hl _ hp) (fun b o hb hbo => (Heap.get?_update_other h _ (Ne.symm hb)).trans hbo)
      · rename_i hge
        have e1 : x.cps.extract d r0 = #[] := by
          have : r0 = d := by omega
          subst this; simp; omega
        exact fin h tk vs ys nl hl hvs (by rw [e1]; simp) (by omega) hp (fun b o _ hbo => hbo)
    · refine reRunToEnd_of hn he (.inr ⟨o1, ?_⟩)
      dsimp only
      have ed : ((d : Int)).toNat = d := Int.toNat_natCast d
      rw [ed]
      split
      · rename_i hlt
        conv => arg 3; unfold reSlice
        refine wpAny_bind (wpAny_mkStr (x := ⟨x.cps.extract d x.cps.size⟩) ?_ (Nat.le_trans (slice_len _ _ _) (by omega)))
        refine wpAny_bind (wpAny_updateSeq (a := l) (o := listObj vs.toArray nl) (xs := vs.toArray) hl rfl ?_ (by simp; omega) (by simp; omega))
        obtain ⟨nl2, hl2⟩ := upd_list hl (Value.str ⟨x.cps.extract d x.cps.size⟩ tk)
        refine sub_done (r := r) (ys := ys ++ [⟨x.cps.extract d x.cps.size⟩]) (x := x) hl2 (strs_snoc' hvs) ?_ (glue_snoc _ _) (fun t' tk' => hR _ _ _ (SubTo.none hN) (fun b o hb hbo => (Heap.get?_update_other h _ (Ne.symm hb)).trans hbo) t')
        rw [glue_snoc]
        simp only [List.length_append, Array.length_toList, Array.size_extract]
        omega
      · rename_i hge
        have e1 : x.cps.extract d x.cps.size = #[] := by simp; omega
        refine sub_done (r := r) (ys := ys) (x := x) hl hvs (by omega) rfl (fun t' tk' => ?_)
        have := hR h tk' _ (SubTo.none hN) (fun b o _ hbo => hbo) t'
        rw [e1] at this
        simpa using this

theorem call_sub {Fd : Nat → Nat → Nat → Prop} {Nn : Nat → Prop} {r : Str} {tr : Tok} {Q : Value → Shared → Prop} (hp : IsPat s.heap a code) (hx : x.length ≤ 2 ^ 20) (hr : r.cps.size ≤ 2) (hbs : r.cps.contains 92 = false) (F : Finds code x.cps Fd Nn)
    (h : ∀ h' tk' t' out, SubTo Fd Nn x.cps r.cps 0 out → (∀ b o, s.heap.get? b = some o → h'.get? b = some o) → Q (.str ⟨out.toArray⟩ t') { s with heap := h', toks := tk' }) :
    wpAny (model prog w) A (call (.builtin "re.Pattern.sub") [.ref a, .str r tr, .str x t]) Q E s := by
  refine wpAny_call (codeAny_call_builtin slot_pat_sub.plain entry_pat_sub (slot_pat_sub.check _ _ _ _ _ _ _ _ hp.typeIs (args_pat_sub _ _ _) ?_))
  unfold Builtin.«re.Pattern.sub» reSubstitute
  refine wpAny_bind (wpAny_pure (a := [some (Value.str r tr), some (Value.str x t), none]) ?_)
  refine wpAny_bind (wpAny_pure (a := (0 : Int)) ?_)
  refine wpAny_bind (wpAny_specialOf (typeIs_str _ _ _) str_nocall ?_)
  refine wpAny_bind (wpAny_pure (a := some r) ?_)
  refine wpAny_bind (wpAny_pure ?_)
  rw [hbs]
  refine wpAny_bind (wpAny_pure (a := (Value.str r tr, 0)) ?_)
  refine wpAny_bind (wpAny_holding (wp_whole hp ?_))
  refine wpAny_bind (wpAny_newList ?_ (Nat.zero_le _))
  refine wpAny_pure ⟨plainId_quiet plain_pat_loop _, ?_⟩
  have hl : (s.heap.push { cls := .type "list", data := .seq ([] : List Value).toArray }).get? s.heap.objs.size = some (listObj ([] : List Value).toArray 0) := Heap.get?_push_size _ rfl
  refine sub_loop (s := s) hx hr F (x.cps.size + 1) 0 0 (s.heap.push { cls := .type "list", data := .seq ([] : List Value).toArray }) s.toks s.heap.objs.size [] [] 0 (by omega) (Nat.zero_le _) hl .nil (Nat.zero_le _) (Nat.zero_le _) (hp.mono fun b o e => Heap.get?_push_of_some _ e) ?_
  intro h' tk' out hsub hk t'
  have := h h' tk' t' out hsub (fun b o e => hk b o (Nat.ne_of_lt (Heap.lt_size e)) (Heap.get?_push_of_some _ e))
  simpa [glue] using this
end
end Mine
end

section
open PySem
set_option Elab.async false
set_option maxRecDepth 100000
set_option maxHeartbeats 8000000
set_option linter.unusedSimpArgs false
set_option linter.unusedVariables false
namespace Mine

/-- consing a sign onto the first row -/
def consHead (c : Nat) : List (List Nat) → List (List Nat)
  | [] => [[c]]
  | r :: rs => (c :: r) :: rs

def rowsF : Nat → List Nat → List (List Nat)
  | _, [] => [[]]
  | a, c :: t => if c = 13 ∨ (c = 10 ∧ a ≠ 13) then [] :: rowsF c t else if c = 10 then rowsF c t else consHead c (rowsF c t)

theorem consHead_ne (c : Nat) (r : List (List Nat)) : consHead c r ≠ [] := by cases r <;> simp [consHead]
theorem rowsF_ne : ∀ (l : List Nat) (a : Nat), rowsF a l ≠ []
  | [], _ => by simp [rowsF]
  | c :: t, a => by
    rw [rowsF]
    split
    · simp
    · split
      · exact rowsF_ne t c
      · exact consHead_ne _ _
theorem joinL_consHead {sep : List Nat} {c : Nat} : ∀ {r : List (List Nat)}, r ≠ [] → joinL sep (consHead c r) = c :: joinL sep r
  | [], h => absurd rfl h
  | [x], _ => rfl
  | x :: y :: r, _ => rfl
theorem joinL_nilrow {sep : List Nat} {r : List (List Nat)} (h : r ≠ []) : joinL sep ([] :: r) = sep ++ joinL sep r := by rw [joinL_cons h]; rfl

theorem rowsF_ahead {a b : Nat} {l : List Nat} (h : (a ≠ 13 ∧ b ≠ 13) ∨ l.head? ≠ some 10) : rowsF a l = rowsF b l := by
  cases l with
  | nil => rfl
  | cons c t =>
    simp only [rowsF]
    by_cases h10 : c = 10
    · subst h10
      rcases h with ⟨h1, h2⟩ | h
      · simp [h1, h2]
      · exact absurd rfl h
    · simp [h10]

section
variable {sep : List Nat}
theorem J_other {c : Nat} {t : List Nat} (h1 : c ≠ 10) (h2 : c ≠ 13) : joinL sep (rowsF 32 (c :: t)) = c :: joinL sep (rowsF 32 t) := by
  rw [rowsF]
  simp only [h1, h2, false_and, or_false, if_false]
  rw [joinL_consHead (rowsF_ne _ _), rowsF_ahead (a := c) (b := 32) (.inl ⟨h2, by decide⟩)]
theorem J_lf {t : List Nat} : joinL sep (rowsF 32 (10 :: t)) = sep ++ joinL sep (rowsF 32 t) := by
  rw [rowsF]
  simp
  rw [joinL_nilrow (rowsF_ne _ _), rowsF_ahead (a := 10) (b := 32) (.inl ⟨by decide, by decide⟩)]
theorem J_cr {t : List Nat} (h : t.head? ≠ some 10) : joinL sep (rowsF 32 (13 :: t)) = sep ++ joinL sep (rowsF 32 t) := by
  rw [rowsF]
  simp
  rw [joinL_nilrow (rowsF_ne _ _), rowsF_ahead (a := 13) (b := 32) (.inr h)]
theorem J_crlf {t : List Nat} : joinL sep (rowsF 32 (13 :: 10 :: t)) = sep ++ joinL sep (rowsF 32 t) := by
  rw [rowsF]
  simp
  rw [joinL_nilrow (rowsF_ne _ _), rowsF]
  simp
  rw [rowsF_ahead (a := 10) (b := 32) (.inl ⟨by decide, by decide⟩)]
end

theorem SubTo.eq {Fd : Nat → Nat → Nat → Prop} {Nn : Nat → Prop} {text repl : Array Nat} {P : Nat → Prop} {en : Nat → Nat} {f : Nat → List Nat}
    (S : ∀ d (h : d < text.size), ¬ P d → f d = text[d] :: f (d + 1)) (T : ∀ d, P d → f d = repl.toList ++ f (en d)) (N : ∀ d, text.size ≤ d → f d = [])
    (hF : ∀ d r e, Fd d r e → d ≤ r ∧ r < text.size ∧ P r ∧ (∀ k, d ≤ k → k < r → ¬ P k) ∧ e = en r) (hN : ∀ d, Nn d → ∀ k, d ≤ k → ¬ P k) {d : Nat} {out : List Nat} (h : SubTo Fd Nn text repl d out) : out = f d := by
  have skip : ∀ (k d r : Nat), r - d = k → d ≤ r → r ≤ text.size → (∀ j, d ≤ j → j < r → ¬ P j) → f d = (text.extract d r).toList ++ f r := by
    intro k
    induction k with
    | zero =>
      intro d r h1 h2 h3 _
      have : d = r := by omega
      subst this
      simp
    | succ k ih =>
      intro d r h1 h2 h3 hn
      have hd : d < text.size := by omega
      rw [S d hd (hn d (Nat.le_refl _) (by omega)), ih (d + 1) r (by omega) (by omega) h3 (fun j a b => hn j (by omega) b)]
      have : (text.extract d r).toList = text[d] :: (text.extract (d + 1) r).toList := by
        rw [Array.toList_extract, Array.toList_extract, List.extract_eq_take_drop, List.extract_eq_take_drop, List.drop_eq_getElem_cons (by simpa using hd)]
        rw [show r - d = (r - (d + 1)) + 1 by omega, List.take_succ_cons]
        simp
      rw [this]
      rfl
  induction h with
  | @none d hn =>
    by_cases hd : d ≤ text.size
    · rw [skip (text.size - d) d text.size rfl hd (Nat.le_refl _) (fun j a _ => hN d hn j a), N text.size (Nat.le_refl _)]
      simp
    · rw [N d (by omega)]
      simp
      omega
  | @some d r e out hfd hsub ih =>
    obtain ⟨a1, a2, a3, a4, rfl⟩ := hF _ _ _ hfd
    rw [skip (r - d) d r rfl a1 (by omega) a4, T r a3, ih]
    simp

theorem drop_cons {text : Array Nat} {d : Nat} (h : d < text.size) : text.toList.drop d = text[d] :: text.toList.drop (d + 1) := by
  rw [List.drop_eq_getElem_cons (by simpa using h)]
  simp
theorem drop_none {text : Array Nat} {d : Nat} (h : text.size ≤ d) : text.toList.drop d = [] := by simpa using h

/-! the second pattern: every line end becomes a return and a feed -/
def nlOf (text : Array Nat) (d : Nat) : List Nat := joinL [13, 10] (rowsF 32 (text.toList.drop d))

theorem sub2_eq {text : Array Nat} {out : List Nat}
    (h : SubTo (fun d r e => Found2 text d r ∧ e = if CrLfAt text r then r + 2 else r + 1) (None2 text) text #[13, 10] 0 out) : out = joinL [13, 10] (rowsF 32 text.toList) := by
  have := SubTo.eq (P := EolAt text) (en := fun r => if CrLfAt text r then r + 2 else r + 1) (f := nlOf text) ?_ ?_ ?_ ?_ ?_ h
  · simpa [nlOf] using this
  · intro d hd hp
    unfold nlOf
    rw [drop_cons hd, J_other]
    · intro e; exact hp ⟨hd, .inl (by simp [hd, e])⟩
    · intro e; exact hp ⟨hd, .inr (by simp [hd, e])⟩
  · rintro d ⟨hd, hp⟩
    have hd' : text[d]?.getD 0 = text[d] := by simp [hd]
    unfold nlOf
    by_cases hc : CrLfAt text d
    · rw [if_pos hc]
      obtain ⟨h1, h2, h3⟩ := hc
      rw [drop_cons hd, drop_cons h1]
      have e1 : text[d] = 13 := by rw [← hd']; exact h2
      have e2 : text[d + 1] = 10 := by simpa [h1] using h3
      rw [e1, e2, J_crlf]
    · rw [if_neg hc]
      rw [drop_cons hd]
      rcases hp with hp | hp
      · rw [hd'] at hp; rw [hp, J_lf]
      · rw [hd'] at hp
        rw [hp, J_cr]
        intro e
        apply hc
        by_cases h1 : d + 1 < text.size
        · rw [drop_cons h1] at e
          exact ⟨h1, by rw [hd', hp], by simpa [h1] using e⟩
        · rw [drop_none (by omega)] at e; cases e
  · intro d hd
    unfold nlOf
    rw [drop_none hd]; rfl
  · rintro d r e ⟨⟨a, b, c⟩, rfl⟩
    exact ⟨a, b.1, b, c, rfl⟩
  · exact fun d h => h

theorem finds2 (text : Array Nat) : Finds code2 text (fun d r e => Found2 text d r ∧ e = if CrLfAt text r then r + 2 else r + 1) (None2 text) := by
  refine ⟨fun d => ?_, fun d r e h => ?_⟩
  · obtain ⟨n, m', h1, h2, h3⟩ := search2 text d
    refine ⟨n, m', by omega, h2, ?_⟩
    rcases h3 with ⟨r, a, b, c, e⟩ | h3
    · exact .inl ⟨r, _, ⟨a, rfl⟩, b, c, e⟩
    · exact .inr h3
  · obtain ⟨⟨a, b, c⟩, rfl⟩ := h
    have := b.1
    by_cases hc : CrLfAt text r
    · rw [if_pos hc]; have := hc.1; omega
    · rw [if_neg hc]; omega

/-! the first pattern: a dot at a line's beginning is doubled -/
def dots : Bool → List Nat → List Nat
  | _, [] => []
  | b, c :: t => if b = true ∧ c = 46 then 46 :: 46 :: dots false t else c :: dots (c == 10) t

def bol (text : Array Nat) (d : Nat) : Bool := d == 0 || text[d - 1]?.getD 0 == 10

theorem sub1_eq {text : Array Nat} {out : List Nat}
    (h : SubTo (fun d r e => Found1 text d r ∧ e = r + 1) (None1 text) text #[46, 46] 0 out) : out = dots true text.toList := by
  have key : ∀ d (hd : d < text.size), bol text (d + 1) = (text[d] == 10) := by
    intro d hd
    simp [bol, hd]
  have hb : ∀ d, (bol text d = true) ↔ BolAt text d := by
    intro d; simp [bol, BolAt]
  have := SubTo.eq (P := DotAt text) (en := fun r => r + 1) (f := fun d => dots (bol text d) (text.toList.drop d)) ?_ ?_ ?_ ?_ ?_ h
  · simpa [bol] using this
  · intro d hd hp
    (try dsimp only)
    rw [drop_cons hd, dots, key d hd]
    rw [if_neg]
    rintro ⟨q1, q2⟩
    exact hp ⟨(hb d).mp q1, hd, by simp [hd, q2]⟩
  · rintro d ⟨h1, hd, h2⟩
    have e1 : text[d] = 46 := by simpa [hd] using h2
    rw [drop_cons hd, dots, key d hd, if_pos ⟨(hb d).mpr h1, e1⟩, e1]
    rfl
  · intro d hd
    (try dsimp only)
    rw [drop_none hd]; rfl
  · rintro d r e ⟨⟨a, b, c⟩, rfl⟩
    exact ⟨a, b.2.1, b, c, rfl⟩
  · exact fun d h => h

theorem finds1 (text : Array Nat) (hs : text.size ≤ 2 ^ 30) : Finds code1 text (fun d r e => Found1 text d r ∧ e = r + 1) (None1 text) := by
  refine ⟨fun d => ?_, fun d r e h => ?_⟩
  · obtain ⟨n, m', h1, h2, h3⟩ := search1 text d
    refine ⟨n, m', by omega, h2, ?_⟩
    rcases h3 with ⟨r, a, b, c, e⟩ | h3
    · exact .inl ⟨r, _, ⟨a, rfl⟩, b, c, e⟩
    · exact .inr h3
  · obtain ⟨⟨a, b, c⟩, rfl⟩ := h
    have := b.2.1
    omega
end Mine
end

section
open PySem
set_option Elab.async false
set_option maxRecDepth 100000
set_option maxHeartbeats 8000000
set_option linter.unusedSimpArgs false
set_option linter.unusedVariables false
namespace Mine
open PySem.StrLaws PySem.Builtin PySem.Builtin.Str

abbrev FdR (x y : Str) (d r e : Nat) : Prop := d ≤ r ∧ At x y x.length r ∧ (∀ k, d ≤ k → k < r → ¬ At x y x.length k) ∧ e = r + y.length
abbrev NnR (x y : Str) (d : Nat) : Prop := ∀ k, d ≤ k → ¬ At x y x.length k

theorem chain_sub (x y z : Str) : ∀ (cuts : List Nat) (a f : Nat), ChainG x y x.length a cuts f → (∀ k, f ≤ k → ¬ At x y x.length k) →
    SubTo (FdR x y) (NnR x y) x.cps z.cps a (Str.join z (partsFrom x y.length a cuts)).cps.toList
  | [], a, f, h, hn => by
    have e : f = a := h
    subst e
    exact SubTo.none hn
  | c :: r, a, f, h, hn => by
    obtain ⟨h1, h2, h3, h4⟩ := h
    have ih := chain_sub x y z r (c + y.length) f h4 hn
    obtain ⟨p, q, e⟩ := partsFrom_ne x y.length (c + y.length) r
    have : Str.join z (partsFrom x y.length a (c :: r)) = strSub x a c ++ z ++ Str.join z (partsFrom x y.length (c + y.length) r) := by
      show Str.join z (strSub x a c :: partsFrom x y.length (c + y.length) r) = _
      rw [e]; rfl
    rw [this, Str.cps_append, Str.cps_append, Array.toList_append, Array.toList_append]
    exact SubTo.some ⟨h1, h2, h3, rfl⟩ ih

theorem replace_sub (x y z : Str) (hy : 1 ≤ y.length) : SubTo (FdR x y) (NnR x y) x.cps z.cps 0 (Txt.replace x y z).cps.toList := by
  obtain ⟨f, h1, h2⟩ := occ_tight x y hy
  have key := chain_sub x y z _ 0 f h1 h2
  unfold Txt.replace
  split
  · rename_i hc
    have hc' : (occurrences x y 0 x.length (x.length + 1)).isEmpty = true := by
      have : (y.length == 0) = false := by simp; omega
      simpa [this] using hc
    have e : occurrences x y 0 x.length (x.length + 1) = [] := by simpa using hc'
    rw [e] at key
    have e2 : (Str.join z (partsFrom x y.length 0 [])).cps.toList = x.cps.toList := by
      show (x.cps.extract 0 x.cps.size).toList = _
      simp
    rw [e2] at key
    exact key
  · rw [glued_eq_join, partsBetween_eq]
    exact key

def subst1 (k : Nat) (z : List Nat) (l : List Nat) : List Nat := l.flatMap fun c => if c = k then z else [c]

theorem replace1 (x z : Str) (k : Nat) : (Txt.replace x ⟨#[k]⟩ z).cps.toList = subst1 k z.cps.toList x.cps.toList := by
  have hAt : ∀ i, At x ⟨#[k]⟩ x.length i ↔ x.cps.toList[i]? = some k := fun i => subAt_one x k i
  have := SubTo.eq (P := fun d => x.cps.toList[d]? = some k) (en := fun d => d + 1) (f := fun d => subst1 k z.cps.toList (x.cps.toList.drop d)) ?_ ?_ ?_ ?_ ?_ (replace_sub x ⟨#[k]⟩ z (Nat.le_refl 1))
  · simpa using this
  · intro d hd hp
    have : x.cps[d] ≠ k := by intro e; exact hp (by simp [hd, e])
    (try simp only)
    rw [drop_cons hd]
    simp [subst1, this]
  · intro d hp
    (try simp only)
    have hd : d < x.cps.size := by
      have := (List.getElem?_eq_some_iff.mp hp).1
      simpa using this
    have e : x.cps[d] = k := by simpa [hd] using hp
    rw [drop_cons hd, e]
    simp [subst1]
  · intro d hd
    (try simp only)
    rw [drop_none hd]; rfl
  · rintro d r e ⟨a, b, c, rfl⟩
    refine ⟨a, b.1, (hAt r).mp b, fun j h1 h2 h3 => c j h1 h2 ((hAt j).mpr h3), rfl⟩
  · intro d h j h1 h2
    exact h j h1 ((hAt j).mpr h2)

/-- a return ahead of a feed is struck -/
def crlf1 : List Nat → List Nat
  | [] => []
  | c :: t => if c = 13 ∧ t.head? = some 10 then crlf1 t else c :: crlf1 t

theorem replace_crlf (x : Str) : (Txt.replace x ⟨#[13, 10]⟩ ⟨#[10]⟩).cps.toList = crlf1 x.cps.toList := by
  have hAt : ∀ i, At x ⟨#[13, 10]⟩ x.length i ↔ CrLfAt x.cps i := by
    intro i
    have e : At x ⟨#[13, 10]⟩ x.length i ↔ (i + 2 ≤ x.cps.size ∧ subAt x ⟨#[13, 10]⟩ i = true) := Iff.rfl
    rw [e, subAt_eq]
    show (i + 2 ≤ x.cps.size ∧ ((x.cps.toList.drop i).take 2 == [13, 10]) = true) ↔ _
    constructor
    · rintro ⟨h1, h2⟩
      have a1 : i < x.cps.size := by omega
      have a2 : i + 1 < x.cps.size := by omega
      rw [drop_cons a1, drop_cons a2] at h2
      simp at h2
      exact ⟨a2, by simp [a1, h2.1], by simp [a2, h2.2]⟩
    · rintro ⟨h1, h2, h3⟩
      have a1 : i < x.cps.size := by omega
      refine ⟨by omega, ?_⟩
      rw [drop_cons a1, drop_cons h1]
      have e1 : x.cps[i] = 13 := by simpa [a1] using h2
      have e2 : x.cps[i + 1] = 10 := by simpa [h1] using h3
      simp [e1, e2]
  have := SubTo.eq (P := fun d => CrLfAt x.cps d) (en := fun d => d + 2) (f := fun d => crlf1 (x.cps.toList.drop d)) ?_ ?_ ?_ ?_ ?_ (replace_sub x ⟨#[13, 10]⟩ ⟨#[10]⟩ (by decide))
  · simpa using this
  · intro d hd hp
    (try simp only)
    rw [drop_cons hd, crlf1, if_neg]
    rintro ⟨h1, h2⟩
    apply hp
    by_cases h3 : d + 1 < x.cps.size
    · rw [drop_cons h3] at h2
      exact ⟨h3, by simp [hd, h1], by simpa [h3] using h2⟩
    · rw [drop_none (by omega)] at h2; cases h2
  · rintro d ⟨h1, h2, h3⟩
    (try simp only)
    have a1 : d < x.cps.size := by omega
    have e1 : x.cps[d] = 13 := by simpa [a1] using h2
    have e2 : x.cps[d + 1] = 10 := by simpa [h1] using h3
    rw [drop_cons a1, drop_cons h1, e1, e2]
    simp [crlf1]
  · intro d hd
    (try simp only)
    rw [drop_none hd]; rfl
  · rintro d r e ⟨a, b, c, rfl⟩
    have b' := (hAt r).mp b
    exact ⟨a, by have := b'.1; omega, b', fun j h1 h2 h3 => c j h1 h2 ((hAt j).mpr h3), rfl⟩
  · intro d h j h1 h2
    exact h j h1 ((hAt j).mpr h2)

def cr2lf (c : Nat) : Nat := if c = 13 then 10 else c

theorem J_escape : ∀ l : List Nat, joinL [10] (rowsF 32 l) = (crlf1 l).map cr2lf
  | [] => rfl
  | c :: t => by
    have ih := J_escape t
    by_cases h1 : c = 13
    · subst h1
      by_cases h2 : t.head? = some 10
      · obtain ⟨t', rfl⟩ : ∃ t', t = 10 :: t' := by
          cases t with
          | nil => cases h2
          | cons d t' => exact ⟨t', by simp at h2; rw [h2]⟩
        rw [J_crlf, crlf1, if_pos ⟨rfl, h2⟩, ← ih, J_lf]
      · rw [J_cr h2, crlf1, if_neg (fun q => h2 q.2), ih]; rfl
    · by_cases h2 : c = 10
      · subst h2
        rw [J_lf, crlf1, if_neg (fun q => h1 q.1), ih]; rfl
      · rw [J_other h2 h1, crlf1, if_neg (fun q => h1 q.1), ih]
        simp [cr2lf, h1]
end Mine
end

section
open PySem
set_option Elab.async false
set_option maxRecDepth 100000
set_option maxHeartbeats 8000000
set_option linter.unusedSimpArgs false
set_option linter.unusedVariables false
namespace Mine

def escC (c : Nat) : List Nat := if c = 38 then [38, 97, 109, 112, 59] else if c = 60 then [38, 108, 116, 59] else if c = 62 then [38, 103, 116, 59] else [c]
def escRow (r : List Nat) : List Nat := r.flatMap escC
def quoRow (r : List Nat) : List Nat := if r.head? = some 46 then 46 :: r else r
def escL (l : List Nat) : List Nat := joinL [10] ((rowsF 32 l).map escRow)
def quoL (l : List Nat) : List Nat := joinL [13, 10] ((rowsF 32 l).map quoRow)

def NoEol (r : List Nat) : Prop := ∀ c ∈ r, c ≠ 10 ∧ c ≠ 13

theorem consHead_mem {c : Nat} {R : List (List Nat)} {r : List Nat} (h : r ∈ consHead c R) : (∃ r', r = c :: r' ∧ (r' ∈ R ∨ r' = [])) ∨ r ∈ R := by
  cases R with
  | nil => simp [consHead] at h; exact .inl ⟨[], h, .inr rfl⟩
  | cons x xs =>
    simp only [consHead, List.mem_cons] at h
    rcases h with rfl | h
    · exact .inl ⟨x, rfl, .inl (by simp)⟩
    · exact .inr (by simp [h])

theorem rowsF_mem : ∀ (l : List Nat) (a : Nat), ∀ r ∈ rowsF a l, ∀ c ∈ r, c ∈ l ∧ c ≠ 10 ∧ c ≠ 13
  | [], a, r, hr, c, hc => by
    simp [rowsF] at hr
    subst hr
    cases hc
  | d :: t, a, r, hr, c, hc => by
    have ih := rowsF_mem t d
    rw [rowsF] at hr
    split at hr
    · rcases List.mem_cons.mp hr with rfl | hr
      · cases hc
      · have := ih r hr c hc; exact ⟨List.mem_cons_of_mem _ this.1, this.2⟩
    · rename_i h1
      split at hr
      · have := ih r hr c hc; exact ⟨List.mem_cons_of_mem _ this.1, this.2⟩
      · rename_i h2
        rcases consHead_mem hr with ⟨r', rfl, hr'⟩ | hr
        · rcases List.mem_cons.mp hc with rfl | hc
          · exact ⟨by simp, h2, fun e => h1 (.inl e)⟩
          · rcases hr' with hr' | rfl
            · have := ih r' hr' c hc; exact ⟨List.mem_cons_of_mem _ this.1, this.2⟩
            · cases hc
        · have := ih r hr c hc; exact ⟨List.mem_cons_of_mem _ this.1, this.2⟩

theorem rowsF_noEol (l : List Nat) (a : Nat) : ∀ r ∈ rowsF a l, NoEol r := fun r hr c hc => (rowsF_mem l a r hr c hc).2

theorem R_other {c : Nat} {t : List Nat} (h1 : c ≠ 10) (h2 : c ≠ 13) : rowsF 32 (c :: t) = consHead c (rowsF 32 t) := by
  rw [rowsF]
  simp only [h1, h2, false_and, or_false, if_false]
  rw [rowsF_ahead (a := c) (b := 32) (.inl ⟨h2, by decide⟩)]
theorem R_lf {t : List Nat} : rowsF 32 (10 :: t) = [] :: rowsF 32 t := by
  rw [rowsF]
  simp
  rw [rowsF_ahead (a := 10) (b := 32) (.inl ⟨by decide, by decide⟩)]
theorem R_crlf {t : List Nat} : rowsF 32 (13 :: 10 :: t) = [] :: rowsF 32 t := by
  rw [rowsF]
  simp
  rw [rowsF]
  simp
  rw [rowsF_ahead (a := 10) (b := 32) (.inl ⟨by decide, by decide⟩)]

theorem R_row : ∀ (r : List Nat), NoEol r → rowsF 32 r = [r]
  | [], _ => rfl
  | c :: r, h => by
    rw [R_other (h c (by simp)).1 (h c (by simp)).2, R_row r (fun d hd => h d (by simp [hd]))]
    rfl
theorem R_append : ∀ (r t : List Nat) {R : List (List Nat)}, NoEol r → rowsF 32 t = [] :: R → rowsF 32 (r ++ t) = r :: R
  | [], t, R, _, ht => ht
  | c :: r, t, R, h, ht => by
    show rowsF 32 (c :: (r ++ t)) = _
    rw [R_other (h c (by simp)).1 (h c (by simp)).2, R_append r t (fun d hd => h d (by simp [hd])) ht]
    rfl

theorem rowsF_join (sep : List Nat) (hs : sep = [13, 10] ∨ sep = [10]) : ∀ (R : List (List Nat)), R ≠ [] → (∀ r ∈ R, NoEol r) → rowsF 32 (joinL sep R) = R
  | [], h, _ => absurd rfl h
  | [r], _, h => R_row r (h r (by simp))
  | r :: r2 :: R, _, h => by
    have ih := rowsF_join sep hs (r2 :: R) (by simp) (fun q hq => h q (by simp [hq]))
    show rowsF 32 (r ++ sep ++ joinL sep (r2 :: R)) = _
    rw [List.append_assoc]
    refine R_append r _ (h r (by simp)) ?_
    rcases hs with rfl | rfl
    · show rowsF 32 (13 :: 10 :: joinL [13, 10] (r2 :: R)) = _
      rw [R_crlf, ih]
    · show rowsF 32 (10 :: joinL [10] (r2 :: R)) = _
      rw [R_lf, ih]

/-! quotedata's two substitutions are quoL -/
theorem dots_false : ∀ (r t : List Nat), NoEol r → dots false (r ++ t) = r ++ dots false t
  | [], _, _ => rfl
  | c :: r, t, h => by
    show dots false (c :: (r ++ t)) = _
    have h10 : (c == 10) = false := by simp [(h c (by simp)).1]
    rw [dots, if_neg (by simp), h10, dots_false r t (fun d hd => h d (by simp [hd]))]
    rfl
theorem dots_row (r t : List Nat) (h : NoEol r) (hr : r ≠ []) : dots true (r ++ t) = quoRow r ++ dots false t := by
  cases r with
  | nil => exact absurd rfl hr
  | cons c r =>
    have h10 : (c == 10) = false := by simp [(h c (by simp)).1]
    have hh := dots_false r t (fun d hd => h d (by simp [hd]))
    show dots true (c :: (r ++ t)) = _
    rw [dots]
    by_cases hc : c = 46
    · subst hc
      rw [if_pos ⟨rfl, rfl⟩, hh]; simp [quoRow]
    · rw [if_neg (fun q => hc q.2), h10, hh]; simp [quoRow, hc]
theorem dots_eol (b : Bool) (t : List Nat) : dots b (13 :: 10 :: t) = 13 :: 10 :: dots true t := by
  rw [dots, if_neg (by simp), dots, if_neg (by simp)]; rfl
theorem dots_join : ∀ (R : List (List Nat)), R ≠ [] → (∀ r ∈ R, NoEol r) → dots true (joinL [13, 10] R) = joinL [13, 10] (R.map quoRow)
  | [], h, _ => absurd rfl h
  | [r], _, h => by
    show dots true r = quoRow r
    by_cases hr : r = []
    · subst hr; rfl
    · have := dots_row r [] (h r (by simp)) hr
      simpa [dots] using this
  | r :: r2 :: R, _, h => by
    have ih := dots_join (r2 :: R) (by simp) (fun q hq => h q (by simp [hq]))
    show dots true (r ++ [13, 10] ++ joinL [13, 10] (r2 :: R)) = quoRow r ++ [13, 10] ++ joinL [13, 10] ((r2 :: R).map quoRow)
    rw [← ih, List.append_assoc, List.append_assoc]
    show dots true (r ++ (13 :: 10 :: joinL [13, 10] (r2 :: R))) = quoRow r ++ (13 :: 10 :: dots true (joinL [13, 10] (r2 :: R)))
    by_cases hr : r = []
    · subst hr
      show dots true (13 :: 10 :: _) = _
      rw [dots_eol]; rfl
    · rw [dots_row r _ (h r (by simp)) hr, dots_eol]
theorem quo_eq (l : List Nat) : dots true (joinL [13, 10] (rowsF 32 l)) = quoL l := dots_join _ (rowsF_ne _ _) (rowsF_noEol l 32)

/-! _escape's five replaces are escL -/
theorem flatMap_join (f : Nat → List Nat) (hf : f 10 = [10]) : ∀ R : List (List Nat), (joinL [10] R).flatMap f = joinL [10] (R.map (·.flatMap f))
  | [] => rfl
  | [r] => rfl
  | r :: r2 :: R => by
    have ih := flatMap_join f hf (r2 :: R)
    show (r ++ [10] ++ joinL [10] (r2 :: R)).flatMap f = r.flatMap f ++ [10] ++ joinL [10] ((r2 :: R).map (·.flatMap f))
    rw [List.flatMap_append, List.flatMap_append, ih]
    simp [hf]
theorem subst_cr (l : List Nat) : subst1 13 [10] l = l.map cr2lf := by
  induction l with
  | nil => rfl
  | cons c t ih =>
    show (if c = 13 then [10] else [c]) ++ subst1 13 [10] t = _
    rw [ih]
    by_cases h : c = 13 <;> simp [h, cr2lf]
theorem subst3 (l : List Nat) : subst1 62 [38, 103, 116, 59] (subst1 60 [38, 108, 116, 59] (subst1 38 [38, 97, 109, 112, 59] l)) = l.flatMap escC := by
  induction l with
  | nil => rfl
  | cons c t ih =>
    have e1 : subst1 38 [38, 97, 109, 112, 59] (c :: t) = (if c = 38 then [38, 97, 109, 112, 59] else [c]) ++ subst1 38 [38, 97, 109, 112, 59] t := rfl
    have ea : ∀ k z a b, subst1 k z (a ++ b) = subst1 k z a ++ subst1 k z b := fun k z a b => List.flatMap_append
    rw [e1, ea, ea, ih]
    show _ = escC c ++ t.flatMap escC
    congr 1
    unfold escC
    by_cases h1 : c = 38
    · subst h1; decide
    · by_cases h2 : c = 60
      · subst h2; decide
      · by_cases h3 : c = 62
        · subst h3; decide
        · simp [h1, h2, h3, subst1]
theorem esc_eq (l : List Nat) : (subst1 13 [10] (crlf1 l)).flatMap escC = escL l := by
  rw [subst_cr, ← J_escape, flatMap_join escC (by decide)]
  rfl

/-! the told form -/
def amps (e : Nat) : List Nat := (List.replicate e [97, 109, 112, 59]).flatten
theorem amps_succ (e : Nat) : amps (e + 1) = [97, 109, 112, 59] ++ amps e := by simp [amps, List.replicate_succ]
def signTold (e c : Nat) : List Nat := if c = 38 then 38 :: amps e else if c = 60 then (if e = 0 then [60] else 38 :: (amps (e - 1) ++ [108, 116, 59])) else [c]
def rowTold (e s : Nat) (r : List Nat) : List Nat := (if r.head? = some 46 then List.replicate s 46 else []) ++ r.flatMap (signTold e)
def sepOf (b : Int) : List Nat := if b = 1 then [10] else [13, 10]
def toldL (l : List Nat) (e s : Nat) (last : Int) : List Nat := joinL (sepOf last) ((rowsF 32 l).map (rowTold e s))
def stepL (t : List Nat) (b : Int) : List Nat := if b = 1 then escL t else quoL t

theorem escRow_amps (e : Nat) : (amps e).flatMap escC = amps e := by
  induction e with
  | zero => rfl
  | succ e ih => rw [amps_succ, List.flatMap_append, ih]; rfl

theorem esc_sign (e c : Nat) (h : c ≠ 62) : (signTold e c).flatMap escC = signTold (e + 1) c := by
  unfold signTold
  by_cases h1 : c = 38
  · rw [if_pos h1, if_pos h1, List.flatMap_cons, escRow_amps, amps_succ]; rfl
  · rw [if_neg h1, if_neg h1]
    by_cases h2 : c = 60
    · rw [if_pos h2, if_pos h2, if_neg (Nat.succ_ne_zero e)]
      cases e with
      | zero => rfl
      | succ e =>
        rw [if_neg (Nat.succ_ne_zero e)]
        simp only [Nat.add_sub_cancel]
        rw [List.flatMap_cons, List.flatMap_append, escRow_amps, amps_succ]; rfl
    · rw [if_neg h2, if_neg h2]; simp [escC, h1, h2, h]

theorem flatMap_flat (f g : Nat → List Nat) (l : List Nat) : (l.flatMap f).flatMap g = l.flatMap fun c => (f c).flatMap g := by
  induction l with
  | nil => rfl
  | cons c t ih => rw [List.flatMap_cons, List.flatMap_append, ih]; rfl

theorem esc_rowTold (e s : Nat) (r : List Nat) (h : ∀ c ∈ r, c ≠ 62) : escRow (rowTold e s r) = rowTold (e + 1) s r := by
  unfold escRow rowTold
  rw [List.flatMap_append, flatMap_flat]
  congr 1
  · split
    · induction s with
      | zero => rfl
      | succ s ih => rw [List.replicate_succ, List.flatMap_cons, ih]; rfl
    · rfl
  · induction r with
    | nil => rfl
    | cons c t ih => rw [List.flatMap_cons, List.flatMap_cons, esc_sign e c (h c (by simp)), ih (fun d hd => h d (by simp [hd]))]

theorem head_sign (e c : Nat) (t : List Nat) : (signTold e c ++ t).head? = some 46 ↔ c = 46 := by
  unfold signTold
  by_cases h1 : c = 38
  · subst h1; simp
  · rw [if_neg h1]
    by_cases h2 : c = 60
    · subst h2; rw [if_pos rfl]
      split <;> simp
    · rw [if_neg h2]; simp

theorem quo_rowTold (e s : Nat) (r : List Nat) : quoRow (rowTold e s r) = rowTold e (s + 1) r := by
  unfold quoRow rowTold
  cases r with
  | nil => simp
  | cons c t =>
    by_cases hc : c = 46
    · subst hc
      have h46 : signTold e 46 = [46] := by simp [signTold]
      cases s with
      | zero => simp [h46]
      | succ s => simp [List.replicate_succ, h46]
    · have hh : ((c :: t).head? = some 46) = False := by simp [hc]
      simp only [hh, if_false, List.nil_append, List.flatMap_cons]
      rw [if_neg]
      intro q
      exact hc ((head_sign e c _).mp q)

theorem rowTold_zero (r : List Nat) : rowTold 0 0 r = r := by
  unfold rowTold
  have : r.flatMap (signTold 0) = r := by
    induction r with
    | nil => rfl
    | cons c t ih =>
      rw [List.flatMap_cons, ih]
      unfold signTold
      by_cases h1 : c = 38
      · subst h1; rfl
      · by_cases h2 : c = 60
        · subst h2; rfl
        · rw [if_neg h1, if_neg h2]; rfl
  rw [this]
  simp

theorem signTold_noEol (e c : Nat) (h : c ≠ 10 ∧ c ≠ 13) : NoEol (signTold e c) := by
  have ha : ∀ n, NoEol (amps n) := by
    intro n
    induction n with
    | zero => intro c hc; cases hc
    | succ n ih =>
      rw [amps_succ]
      intro d hd
      rcases List.mem_append.mp hd with hd | hd
      · simp at hd; omega
      · exact ih d hd
  unfold signTold
  split
  · intro d hd
    rcases List.mem_cons.mp hd with rfl | hd
    · decide
    · exact ha _ d hd
  · split
    · split
      · intro d hd; simp at hd; omega
      · intro d hd
        rcases List.mem_cons.mp hd with rfl | hd
        · decide
        · rcases List.mem_append.mp hd with hd | hd
          · exact ha _ d hd
          · simp at hd; omega
    · intro d hd
      simp at hd
      subst hd
      exact h

theorem rowTold_noEol (e s : Nat) (r : List Nat) (h : NoEol r) : NoEol (rowTold e s r) := by
  intro c hc
  unfold rowTold at hc
  rcases List.mem_append.mp hc with hc | hc
  · split at hc
    · have := (List.mem_replicate.mp hc).2; omega
    · cases hc
  · obtain ⟨d, hd, hc⟩ := List.mem_flatMap.mp hc
    exact signTold_noEol e d (h d hd) c hc

theorem step_rows (e s : Nat) (b : Int) (hb : b = 0 ∨ b = 1) (t : List Nat) (R : List (List Nat)) (hR : ∀ r ∈ R, ∀ c ∈ r, c ≠ 62) (ht : rowsF 32 t = R.map (rowTold e s)) :
    stepL t b = joinL (sepOf b) (R.map (rowTold (if b = 1 then e + 1 else e) (if b = 1 then s else s + 1))) := by
  unfold stepL sepOf
  rcases hb with rfl | rfl
  · rw [if_neg (by decide), if_neg (by decide), if_neg (by decide), if_neg (by decide)]
    unfold quoL
    rw [ht, List.map_map]
    congr 1
    exact List.map_congr_left fun r hr => quo_rowTold e s r
  · rw [if_pos rfl, if_pos rfl, if_pos rfl, if_pos rfl]
    unfold escL
    rw [ht, List.map_map]
    congr 1
    exact List.map_congr_left fun r hr => esc_rowTold e s r (hR r hr)

/-- how many of the steps are escapings -/
def nOnes (bs : List Int) : Nat := (bs.filter (· = 1)).length

theorem nOnes_snoc (cs : List Int) (c : Int) : nOnes (cs ++ [c]) = if c = 1 then nOnes cs + 1 else nOnes cs := by
  unfold nOnes
  rw [List.filter_append]
  by_cases h : c = 1 <;> simp [h]

theorem main_rev (l : List Nat) (h62 : ∀ c ∈ l, c ≠ 62) : ∀ (bs : List Int) (b : Int), (∀ x ∈ bs, x = 0 ∨ x = 1) → (b = 0 ∨ b = 1) →
    (bs ++ [b]).foldl stepL l = toldL l (nOnes (bs ++ [b])) ((bs ++ [b]).length - nOnes (bs ++ [b])) b := by
  have hR : ∀ r ∈ rowsF 32 l, ∀ c ∈ r, c ≠ 62 := fun r hr c hc => h62 c (rowsF_mem l 32 r hr c hc).1
  have key : ∀ (n : Nat) (bs : List Int), bs.length = n → (∀ x ∈ bs, x = 0 ∨ x = 1) → nOnes bs ≤ bs.length ∧ rowsF 32 (bs.foldl stepL l) = (rowsF 32 l).map (rowTold (nOnes bs) (bs.length - nOnes bs)) ∧
      ∀ b, (b = 0 ∨ b = 1) → (bs ++ [b]).foldl stepL l = toldL l (nOnes (bs ++ [b])) ((bs ++ [b]).length - nOnes (bs ++ [b])) b := by
    intro n
    induction n with
    | zero =>
      intro bs hl _
      have : bs = [] := by simpa using hl
      subst this
      have h0 : rowsF 32 l = (rowsF 32 l).map (rowTold 0 0) := by
        rw [List.map_congr_left (g := id) fun r _ => rowTold_zero r, List.map_id]
      refine ⟨by simp [nOnes], h0, fun b hb => ?_⟩
      show stepL l b = _
      rw [step_rows 0 0 b hb l (rowsF 32 l) hR h0]
      rcases hb with rfl | rfl <;> rfl
    | succ n ih =>
      intro bs hl hbs
      obtain ⟨cs, c, rfl⟩ : ∃ cs c, bs = cs ++ [c] := by
        rcases List.eq_nil_or_concat bs with h | ⟨cs, c, h⟩
        · subst h; cases hl
        · exact ⟨cs, c, by simpa using h⟩
      have hlen : cs.length = n := by simpa using hl
      obtain ⟨i1, i2, i3⟩ := ih cs hlen (fun x hx => hbs x (by simp [hx]))
      have hc : c = 0 ∨ c = 1 := hbs c (by simp)
      have hN : nOnes (cs ++ [c]) = if c = 1 then nOnes cs + 1 else nOnes cs := nOnes_snoc cs c
      have hle : nOnes (cs ++ [c]) ≤ (cs ++ [c]).length := by
        rw [hN]; simp; split <;> omega
      have hrows : rowsF 32 ((cs ++ [c]).foldl stepL l) = (rowsF 32 l).map (rowTold (nOnes (cs ++ [c])) ((cs ++ [c]).length - nOnes (cs ++ [c]))) := by
        rw [i3 c hc]
        unfold toldL
        refine rowsF_join _ ?_ _ ?_ ?_
        · unfold sepOf; split
          · exact .inr rfl
          · exact .inl rfl
        · simp [rowsF_ne]
        · intro r hr
          obtain ⟨q, hq, rfl⟩ := List.mem_map.mp hr
          exact rowTold_noEol _ _ _ (rowsF_noEol l 32 q hq)
      refine ⟨hle, hrows, fun b hb => ?_⟩
      have hN' : nOnes (cs ++ [c] ++ [b]) = if b = 1 then nOnes (cs ++ [c]) + 1 else nOnes (cs ++ [c]) := nOnes_snoc (cs ++ [c]) b
      rw [List.foldl_append]
      show stepL ((cs ++ [c]).foldl stepL l) b = _
      rw [step_rows _ _ b hb _ (rowsF 32 l) hR hrows, hN']
      unfold toldL
      rcases hb with rfl | rfl
      · congr 3
        simp only [List.length_append, List.length_cons, List.length_nil] at hle ⊢
        simp; omega
      · congr 3
        simp only [List.length_append, List.length_cons, List.length_nil] at hle ⊢
        simp
  intro bs b h1 h2
  exact (key bs.length bs rfl h1).2.2 b h2
end Mine
end

section
open PySem PySem.W PyProof.Rows
set_option Elab.async false
set_option maxRecDepth 100000
set_option maxHeartbeats 8000000
open_top Mine.hd for PySem.Challenge.rw_mj0037_01
end

section
open PySem PySem.W PyProof.Rows PySem.Calls
set_option Elab.async false
set_option maxRecDepth 100000
set_option maxHeartbeats 8000000
set_option linter.unusedVariables false
namespace Mine

theorem pat1_at {P : Params} {h : Heap} (X : (Mine.hd.heap_39 P).In h) : IsPat h 36 code1 :=
  ⟨35, _, _, _, _, _, _, X 36 _ rfl, rfl, rfl, rfl, X 35 _ rfl, rfl, rfl, by decide +kernel⟩
theorem pat2_at {P : Params} {h : Heap} (X : (Mine.hd.heap_39 P).In h) : IsPat h 41 code2 :=
  ⟨40, _, _, _, _, _, _, X 41 _ rfl, rfl, rfl, rfl, X 40 _ rfl, rfl, rfl, by decide +kernel⟩
theorem pat3_at {P : Params} {h : Heap} (X : (Mine.hd.heap_39 P).In h) : IsPat h 53 code3 :=
  ⟨52, _, _, _, _, _, _, X 53 _ rfl, rfl, rfl, rfl, X 52 _ rfl, rfl, rfl, by decide +kernel⟩

def ofL (l : List Nat) : Str := ⟨l.toArray⟩
theorem ofL_len (l : List Nat) : (ofL l).length = l.length := by show l.toArray.size = _; simp
theorem ofL_list (l : List Nat) : (ofL l).cps.toList = l := by simp [ofL]

section
variable {prog : Program} {w : World} {A : Around} {E : Value → Shared → Prop} {s : Shared} {x : Str} {t tr : Tok} {h₀ : Heap} {L : Addr} {m : Str → Option Value} {news : List (Addr × Obj)} {P : Params} {Q : Value → Shared → Prop}

theorem sub1_step (X : (Mine.hd.heap_39 P).In h₀) (F : Fr h₀ L s.heap m) (N : News h₀ L s.heap news) (hx : x.length ≤ 2 ^ 20)
    (h : ∀ h' tk t', Fr h₀ L h' m → News h₀ L h' news → Q (.str (ofL (dots true x.cps.toList)) t') { s with heap := h', toks := tk }) :
    wpAny (model prog w) A (call (.builtin "re.Pattern.sub") [.ref 36, .str (Str.ofString "..") tr, .str x t]) Q E s := by
  have hx' : x.cps.size ≤ 2 ^ 20 := hx
  refine call_sub ((pat1_at X).mono F.keep) hx (by decide +kernel) (by decide +kernel) (finds1 x.cps (by omega)) fun h' tk' t' out hs hk => ?_
  have e : (Str.ofString "..").cps = #[46, 46] := by decide +kernel
  rw [e] at hs
  rw [sub1_eq hs]
  exact h h' tk' t' (F.keeps hk) (N.grown hk)
theorem sub2_step (X : (Mine.hd.heap_39 P).In h₀) (F : Fr h₀ L s.heap m) (N : News h₀ L s.heap news) (hx : x.length ≤ 2 ^ 20)
    (h : ∀ h' tk t', Fr h₀ L h' m → News h₀ L h' news → Q (.str (ofL (joinL [13, 10] (rowsF 32 x.cps.toList))) t') { s with heap := h', toks := tk }) :
    wpAny (model prog w) A (call (.builtin "re.Pattern.sub") [.ref 41, .str (Str.ofString "\r\n") tr, .str x t]) Q E s := by
  refine call_sub ((pat2_at X).mono F.keep) hx (by decide +kernel) (by decide +kernel) (finds2 x.cps) fun h' tk' t' out hs hk => ?_
  have e : (Str.ofString "\r\n").cps = #[13, 10] := by decide +kernel
  rw [e] at hs
  rw [sub2_eq hs]
  exact h h' tk' t' (F.keeps hk) (N.grown hk)
end

theorem len_nl : ∀ (n : Nat) (l : List Nat), l.length ≤ n → (joinL [13, 10] (rowsF 32 l)).length ≤ 2 * l.length
  | _, [], _ => by simp [rowsF, joinL]
  | 0, c :: t, h => by simp at h
  | n + 1, c :: t, h => by
    have h' : t.length ≤ n := by simpa using h
    have ih := len_nl n t h'
    by_cases h1 : c = 10
    · subst h1; rw [J_lf]; simp; omega
    · by_cases h2 : c = 13
      · subst h2
        by_cases h3 : t.head? = some 10
        · obtain ⟨t', rfl⟩ : ∃ t', t = 10 :: t' := by
            cases t with
            | nil => cases h3
            | cons d t' => exact ⟨t', by simp at h3; rw [h3]⟩
          have ih' := len_nl n t' (by simp at h'; omega)
          rw [J_crlf]; simp; omega
        · rw [J_cr h3]; simp; omega
      · rw [J_other h1 h2]; simp; omega

def quoS (x : Str) : Str := ofL (dots true (ofL (joinL [13, 10] (rowsF 32 x.cps.toList))).cps.toList)
theorem quoS_eq (x : Str) : quoS x = ofL (quoL x.cps.toList) := by
  unfold quoS; rw [ofL_list, quo_eq]

local macro_rules | `(tactic| walk_at "getMethod ref") => `(tactic| (k_here; (with_reducible show wpAny _ _ (getMethod (Value.ref _) (PySem.Str.ofString "sub") _) _ _ _); (first | refine getMethod_pat_sub (a := 36) (pat1_at (by k_in)) ?_ | refine getMethod_pat_sub (a := 41) (pat2_at (by k_in)) ?_)))
theorem len_nlS {x : Str} (h : x.length ≤ 2 ^ 18) : (ofL (joinL [13, 10] (rowsF 32 x.cps.toList))).length ≤ 2 ^ 20 := by
  rw [ofL_len]
  refine Nat.le_trans (len_nl _ _ (Nat.le_refl _)) ?_
  have h' : x.cps.size ≤ 2 ^ 18 := h
  have : x.cps.toList.length ≤ 2 ^ 18 := by simpa using h'
  omega
theorem len_up {x : Str} (h : x.length ≤ 2 ^ 18) : x.length ≤ 2 ^ 20 := by omega

local macro_rules | `(tactic| walk_at "call builtin:re.Pattern.sub") => `(tactic| (k_here; (first | refine sub2_step (by k_asm) (by k_asm) (by k_asm) (len_up (by assumption)) ?_ | refine sub1_step (by k_asm) (by k_asm) (by k_asm) (len_nlS (by assumption)) ?_); intro h' tk' t' F' N'))

theorem quo_claim (w : World) (loose : List Str) (mean : ExcName → Option Value) (mg mb : Str → Option Value) (news : CbLed) (x : Str) (t : Tok) :
   CbClaim PySem.Challenge.rw_mj0037_01.row.prog w (Mine.hd.heap_39 w.params) Mine.hd.view_39 loose mean mg mb 48 news [] (x.length ≤ 2^18) [.str x t] (fun t => .str (quoS x) t) := by
  w_on
  k_fill
  dsimp only [CbClaim, CbLists, CbRet]; intros; rename_i hret
  refine wpAny_call ?_
  k_dflt cell_enter
  w_strict (k_steps; all_goals exact hret _ _ _ (by assumption) (by assumption))
end Mine
end

section
open PySem PySem.W PyProof.Rows PySem.Calls
set_option Elab.async false
set_option maxRecDepth 100000
set_option maxHeartbeats 2000000
set_option linter.unusedVariables false
namespace Mine

def PlainS (x : Str) : Prop := ∀ c ∈ x.cps.toList, Plain c
section
variable {prog : Program} {w : World} {A : Around} {E : Value → Shared → Prop} {s : Shared} {x : Str} {t tr : Tok} {h₀ : Heap} {L : Addr} {m : Str → Option Value} {P : Params} {Q : Value → Shared → Prop}
theorem search_step (X : (Mine.hd.heap_39 P).In h₀) (F : Fr h₀ L s.heap m) (hx : x.length ≤ 2 ^ 14 ∧ PlainS x) (h : Q .none s) :
    wpAny (model prog w) A (call (.builtin "re.Pattern.search") [.ref 53, .str x t]) Q E s := by
  refine call_search3 ((pat3_at X).mono F.keep) (by have := hx.1; omega) (fun j hj => hx.2 _ ?_) h
  rw [Array.getD_eq_getD_getElem?, Array.getElem?_eq_getElem hj]
  simp
end

local macro_rules | `(tactic| walk_at "getMethod ref") => `(tactic| (k_here; (with_reducible show wpAny _ _ (getMethod (Value.ref _) (PySem.Str.ofString "search") _) _ _ _); refine getMethod_pat_search (a := 53) (pat3_at (by k_in)) ?_))
local macro_rules | `(tactic| walk_at "call builtin:re.Pattern.search") => `(tactic| (k_here; refine search_step (by k_asm) (by k_asm) (by assumption) ?_))

theorem execs_cons_tok {M : Model} {A : Around} {st : Stmt} {rest : List Stmt} {env : Env} {Q : Flow → Shared → Prop} {E : Value → Shared → Prop} {s : Shared} (hn : 1 ≤ s.toks)
    (h : wpAny M A (exec st env) (fun f s' => 1 ≤ s'.toks → match f with | .next => wpAny M A (execs rest env) Q E s' | f => Q f s') E s) :
    wpAny M A (execs (st :: rest) env) Q E s :=
  wpAny_execs_cons (wpAny_mono (wpAny_toks_of hn h) (fun _ _ x => x.2 x.1) fun _ _ x => x.2)

theorem subst1_len (k : Nat) (z : List Nat) (b : Nat) (hb : 1 ≤ b) (hz : z.length ≤ b) : ∀ l : List Nat, (subst1 k z l).length ≤ b * l.length
  | [] => by simp [subst1]
  | c :: t => by
    have ih := subst1_len k z b hb hz t
    have e : subst1 k z (c :: t) = (if c = k then z else [c]) ++ subst1 k z t := rfl
    rw [e, List.length_append, List.length_cons, Nat.mul_succ]
    have : (if c = k then z else [c]).length ≤ b := by
      split
      · exact hz
      · simpa using hb
    omega
theorem crlf1_len : ∀ l : List Nat, (crlf1 l).length ≤ l.length
  | [] => by simp [crlf1]
  | c :: t => by
    have ih := crlf1_len t
    rw [crlf1]
    split <;> simp <;> omega
theorem str_len (x : Str) : x.length = x.cps.toList.length := by show x.cps.size = _; simp
abbrev r1 (x : Str) : Str := Txt.replace x (Str.ofString "\r\n") (Str.ofString "\n")
abbrev r2 (x : Str) : Str := Txt.replace (r1 x) (Str.ofString "\r") (Str.ofString "\n")
abbrev r3 (x : Str) : Str := Txt.replace (r2 x) (Str.ofString "&") (Str.ofString "&amp;")
abbrev r4 (x : Str) : Str := Txt.replace (r3 x) (Str.ofString "<") (Str.ofString "&lt;")
abbrev r5 (x : Str) : Str := Txt.replace (r4 x) (Str.ofString ">") (Str.ofString "&gt;")
theorem r1_eq (x : Str) : (r1 x).cps.toList = crlf1 x.cps.toList := by
  have e1 : Str.ofString "\r\n" = ⟨#[13, 10]⟩ := by decide +kernel
  have e2 : Str.ofString "\n" = ⟨#[10]⟩ := by decide +kernel
  unfold r1
  rw [e1, e2]; exact replace_crlf x
theorem r2_eq (x : Str) : (r2 x).cps.toList = subst1 13 [10] (r1 x).cps.toList := by
  have e1 : Str.ofString "\r" = ⟨#[13]⟩ := by decide +kernel
  have e2 : Str.ofString "\n" = ⟨#[10]⟩ := by decide +kernel
  have := replace1 (r1 x) ⟨#[10]⟩ 13
  rw [← e1, ← e2] at this
  rw [this, e2]
theorem r3_eq (x : Str) : (r3 x).cps.toList = subst1 38 [38, 97, 109, 112, 59] (r2 x).cps.toList := by
  have e1 : Str.ofString "&" = ⟨#[38]⟩ := by decide +kernel
  have e2 : (Str.ofString "&amp;").cps.toList = [38, 97, 109, 112, 59] := by decide +kernel
  have := replace1 (r2 x) (Str.ofString "&amp;") 38
  rw [← e1, e2] at this
  exact this
theorem r4_eq (x : Str) : (r4 x).cps.toList = subst1 60 [38, 108, 116, 59] (r3 x).cps.toList := by
  have e1 : Str.ofString "<" = ⟨#[60]⟩ := by decide +kernel
  have e2 : (Str.ofString "&lt;").cps.toList = [38, 108, 116, 59] := by decide +kernel
  have := replace1 (r3 x) (Str.ofString "&lt;") 60
  rw [← e1, e2] at this
  exact this
theorem r5_eq (x : Str) : (r5 x).cps.toList = subst1 62 [38, 103, 116, 59] (r4 x).cps.toList := by
  have e1 : Str.ofString ">" = ⟨#[62]⟩ := by decide +kernel
  have e2 : (Str.ofString "&gt;").cps.toList = [38, 103, 116, 59] := by decide +kernel
  have := replace1 (r4 x) (Str.ofString "&gt;") 62
  rw [← e1, e2] at this
  exact this
def escS (x : Str) : Str := r5 x
theorem escS_eq (x : Str) : escS x = ofL (escL x.cps.toList) := by
  refine str_ext ?_
  rw [ofL_list, ← esc_eq, ← subst3]
  show (r5 x).cps.toList = _
  rw [r5_eq, r4_eq, r3_eq, r2_eq, r1_eq]
section
variable {x : Str} (h : x.length ≤ 2 ^ 14 ∧ PlainS x)
include h
theorem l1 : x.length ≤ 1048576 := by have := h.1; omega
theorem l2' : (r1 x).cps.toList.length ≤ 2 ^ 14 := by rw [r1_eq]; have := crlf1_len x.cps.toList; have := h.1; rw [str_len] at this; omega
theorem l2 : (r1 x).length ≤ 1048576 := by rw [str_len]; have := l2' h; omega
theorem l3' : (r2 x).cps.toList.length ≤ 2 ^ 14 := by rw [r2_eq]; have := subst1_len 13 [10] 1 (by decide) (by decide) (r1 x).cps.toList; have := l2' h; omega
theorem l3 : (r2 x).length ≤ 1048576 := by rw [str_len]; have := l3' h; omega
theorem l4' : (r3 x).cps.toList.length ≤ 5 * 2 ^ 14 := by rw [r3_eq]; have := subst1_len 38 [38, 97, 109, 112, 59] 5 (by decide) (by decide) (r2 x).cps.toList; have := l3' h; omega
theorem l4 : (r3 x).length ≤ 1048576 := by rw [str_len]; have := l4' h; omega
theorem l5' : (r4 x).cps.toList.length ≤ 20 * 2 ^ 14 := by rw [r4_eq]; have := subst1_len 60 [38, 108, 116, 59] 4 (by decide) (by decide) (r3 x).cps.toList; have := l4' h; omega
theorem l5 : (r4 x).length ≤ 1048576 := by rw [str_len]; have := l5' h; omega
end

theorem tok_ne0 {n : Nat} (h : 1 ≤ n) : n ≠ 0 := by omega
theorem tok_ne1 {n : Nat} : n + 1 ≠ 0 := by omega
theorem tok_ne2 {n : Nat} : n ≠ n + 1 := by omega
local macro_rules | `(tactic| walk_at "execs cons") => `(tactic| (k_here; (try dsimp only); refine execs_cons_tok (by first | (with_reducible assumption) | exact Nat.le_add_left 1 _) ?_; (try dsimp only)))
local macro_rules | `(tactic| walk_at "call builtin:str.replace") => `(tactic| (k_here; (try dsimp only); (show wpAny _ _ (call (Value.builtin "str.replace") [Value.str _ _, Value.str _ _, Value.str _ _]) _ _ _); refine SC.replaceW (by first | (with_reducible exact tok_ne1) | exact tok_ne0 (by with_reducible assumption)) (by exact tok_ne1) (by exact tok_ne2) (by decide +kernel) (by with_reducible first | exact l5 (by assumption) | exact l4 (by assumption) | exact l3 (by assumption) | exact l2 (by assumption) | exact l1 (by assumption)) (by decide +kernel) ?_; intro _ _; (try dsimp only)))

theorem esc_claim (w : World) (loose : List Str) (mean : ExcName → Option Value) (mg mb : Str → Option Value) (news : CbLed) (x : Str) (t : Tok) :
   CbClaim PySem.Challenge.rw_mj0037_01.row.prog w (Mine.hd.heap_39 w.params) Mine.hd.view_39 loose mean mg mb 60 news [] (x.length ≤ 2 ^ 14 ∧ PlainS x) [.str x t] (fun t => .str (escS x) t) := by
  w_on
  k_fill
  dsimp only [CbClaim, CbLists, CbRet]; intros; rename_i hret
  refine wpAny_call ?_
  k_dflt cell_enter
  w_strict (k_steps; all_goals exact hret _ _ _ (by assumption) (by assumption))
end Mine
end

section
open PySem PySem.W PyProof.Rows PySem.Calls
set_option Elab.async false
set_option maxRecDepth 100000
set_option maxHeartbeats 2000000
set_option linter.unusedVariables false
namespace Mine

theorem strDraws {prog : Program} {w : World} {A : Around} (hh : A.handled = none) (it : Addr) (x : Str) (t : Tok) :
    Draws prog w A it [it] x.cps.size (SignAt x) (fun i h => h.IsStrIter it (strIterType x) x t i) := by
  unfold strIterType
  split
  · exact Draws.strAscii hh it x t
  · exact Draws.strWide hh it x t

abbrev zs1 (h : Heap) (x : Str) (t : Tok) : Heap := h.push { cls := .type (strIterType x), data := .fields #[.str x t, .int 0 0] }
abbrev zs3 (h : Heap) (x y : Str) (t u : Tok) : Heap := (zs1 (zs1 h x t) y u).push { cls := .type "tuple", data := .seq #[.ref h.objs.size, .ref (zs1 h x t).objs.size] }
abbrev zs4 (h : Heap) (x y : Str) (t u : Tok) : Heap := (zs3 h x y t u).push { cls := .type "tuple", data := .seq #[.none, .none] }
abbrev zs5 (h : Heap) (x y : Str) (t u : Tok) : Heap := (zs4 h x y t u).push { cls := .type "zip", data := .fields #[.none, .bool false, .bool false, .ref (zs1 (zs1 h x t) y u).objs.size, .ref (zs3 h x y t u).objs.size] }

theorem meets_zip_str (x y : Str) (t u : Tok) :
    Meets (Builtin.«zip.__new__» ⟨[.type "zip", .str x t, .str y u], []⟩) (fun _ R s => R (.ok (.ret (.ref (zs4 s.heap x y t u).objs.size))) { s with heap := zs5 s.heap x y t u }) :=
  .of_wp fun prog w A R s h => by
    obtain ⟨hp, g, d, tk, os⟩ := s
    have hsub := sub_zip
    wp_walk using wpAny_pyIter_strU
    exact ⟨_, rfl, h⟩

section
variable {prog : Program} {w : World} {A : Around} {E : Value → Shared → Prop} {s : Shared}

theorem call_zip_str {x y : Str} {t u : Tok} {Q : Value → Shared → Prop}
    (h : ∀ h' I, I = s.heap.objs.size → IsZip h' (I + 4) (I + 2) (I + 3) .none → IsPair h' (I + 2) (.ref I) (.ref (I + 1)) → IsPair h' (I + 3) .none .none →
      h'.IsStrIter I (strIterType x) x t 0 → h'.IsStrIter (I + 1) (strIterType y) y u 0 → (∀ c o, s.heap.get? c = some o → h'.get? c = some o) → Q (.ref (I + 4)) { s with heap := h' }) :
    wpAny (model prog w) A (call (.type "zip") [.str x t, .str y u]) Q E s := by
  refine callType_new F.called_zip (by decide) (F.typeCall_zip_2 _ _) (F.newCall_zip_2 _ _) (fun obj => F.args_object_init_3 obj _ _) F.entry_zip_new (meets_zip_str x y t u) ?_
  have z1 : (zs1 s.heap x t).objs.size = s.heap.objs.size + 1 := Heap.size_push ..
  have z2 : (zs1 (zs1 s.heap x t) y u).objs.size = s.heap.objs.size + 2 := by rw [Heap.size_push, z1]
  have z3 : (zs3 s.heap x y t u).objs.size = s.heap.objs.size + 3 := by rw [Heap.size_push, z2]
  have z4 : (zs4 s.heap x y t u).objs.size = s.heap.objs.size + 4 := by rw [Heap.size_push, z3]
  have g5 : (zs5 s.heap x y t u).get? (zs4 s.heap x y t u).objs.size = some _ := Heap.get?_push_size _ rfl
  have g4 : (zs5 s.heap x y t u).get? (zs3 s.heap x y t u).objs.size = some _ := Heap.get?_push_of_some _ (Heap.get?_push_size _ rfl)
  have g3 : (zs5 s.heap x y t u).get? (zs1 (zs1 s.heap x t) y u).objs.size = some _ := Heap.get?_push_of_some _ (Heap.get?_push_of_some _ (Heap.get?_push_size _ rfl))
  have g2 : (zs5 s.heap x y t u).get? (zs1 s.heap x t).objs.size = some _ := Heap.get?_push_of_some _ (Heap.get?_push_of_some _ (Heap.get?_push_of_some _ (Heap.get?_push_size _ rfl)))
  have g1 : (zs5 s.heap x y t u).get? s.heap.objs.size = some _ := Heap.get?_push_of_some _ (Heap.get?_push_of_some _ (Heap.get?_push_of_some _ (Heap.get?_push_of_some _ (Heap.get?_push_size _ rfl))))
  show _ ∧ _
  rw [z2, z3, z4] at g5
  rw [z1, z2] at g3
  rw [z3] at g4
  rw [z1] at g2
  rw [z4]
  exact ⟨⟨_, g5, rfl⟩, h _ _ rfl g5 g3 g4 ⟨_, g1, rfl, rfl⟩ ⟨_, g2, rfl, rfl⟩ fun c o e =>
    Heap.get?_push_of_some _ (Heap.get?_push_of_some _ (Heap.get?_push_of_some _ (Heap.get?_push_of_some _ (Heap.get?_push_of_some _ e))))⟩

/-- the five objects of a zip over two texts lie one behind the other -/
def ZSt (I : Addr) (x y : Str) (t u : Tok) (f0 : Value) (i : Nat) (h : Heap) : Prop :=
  IsZip h (I + 4) (I + 2) (I + 3) f0 ∧ IsPair h (I + 2) (.ref I) (.ref (I + 1)) ∧ (∃ a b, IsPair h (I + 3) a b) ∧ h.IsStrIter I (strIterType x) x t i ∧ h.IsStrIter (I + 1) (strIterType y) y u i

theorem isStrIter_at {h h' : Heap} {a : Addr} {ty : String} {x : Str} {t : Tok} {i : Nat} (y : h.IsStrIter a ty x t i) (k : ∀ o, h.get? a = some o → h'.get? a = some o) : h'.IsStrIter a ty x t i :=
  let ⟨o, ho, r⟩ := y; ⟨o, k o ho, r⟩

theorem ne_k {I : Nat} (a b : Nat) (h : a ≠ b) : I + a ≠ I + b := by omega
theorem ne_0 {I : Nat} (b : Nat) (h : 0 ≠ b) : I ≠ I + b := by omega

theorem zipS_item {I : Addr} {x y : Str} {t u : Tok} {i : Nat} {Q : Value → Shared → Prop} (hh : A.handled = none)
    (hz : ZSt I x y t u .none i s.heap) (hx : i < x.cps.size) (hy : i < y.cps.size)
    (hQ : ∀ v1 v2 h' tk, SignAt x i v1 → SignAt y i v2 → ZSt I x y t u (rawInt s.heap.objs.size) (i + 1) h' → IsPair h' s.heap.objs.size v1 v2 →
      (∀ c o, c ≠ I + 4 → c ≠ I + 3 → c ≠ I → c ≠ I + 1 → s.heap.get? c = some o → h'.get? c = some o) → Q (.ref s.heap.objs.size) { s with heap := h', toks := tk }) :
    wpAny (model prog w) A (Builtin.«zip.__next__» ⟨[.ref (I + 4)], []⟩) (fun fin s' => ∃ v, fin = .done (.ret v) ∧ Q v s') E s := by
  obtain ⟨hz, hTI, ⟨a, b, hTO⟩, h1, h2⟩ := hz
  have n0 : I ≠ I + 4 := ne_0 4 (by decide)
  have n03 : I ≠ I + 3 := ne_0 3 (by decide)
  have n01 : I ≠ I + 1 := ne_0 1 (by decide)
  show wpAny _ _ (field (.ref (I + 4)) 2 >>= _) _ _ _
  refine wpAny_bind (wpAny_field hz rfl (x := .bool false) rfl ?_)
  show wpAny _ _ (field (.ref (I + 4)) 3 >>= _) _ _ _
  refine wpAny_bind (wpAny_field hz rfl (x := .ref (I + 2)) rfl ?_)
  refine wpAny_bind (wpAny_seqItems hTI rfl ?_)
  show wpAny _ _ (Builtin.SmallTypes.ownedTupleIsFree (.ref (I + 4)) >>= _) _ _ _
  refine wpAny_bind ?_
  unfold Builtin.SmallTypes.ownedTupleIsFree
  refine wpAny_bind (wpAny_field hz rfl (x := .none) rfl (wpAny_pure ?_))
  simp only [if_true]
  refine wpAny_bind (wpAny_rule ?_)
  refine wpAny_bind (wpAny_field hz rfl (x := .ref (I + 3)) rfl ?_)
  refine wpAny_bind (wpAny_setField_rec hz (by simp) fun h₁ hz₁ hs₁ => ?_)
  replace hz₁ : IsZip h₁ (I + 4) (I + 2) (I + 3) .ellipsis := hz₁
  refine wpAny_bind ?_
  simp only [List.zipIdx_cons, List.zipIdx_nil, List.forIn_cons, List.forIn_nil]
  refine wpAny_bind (wpAny_bind (wpAny_onRaise ?_))
  show wpAny _ _ (Builtin.SmallTypes.nextOf (.ref I) >>= _) _ _ _
  refine wpAny_bind ((strDraws hh I x t).item i _ _ _ hx (h1.extBut hs₁.extBut n0) fun v1 h₂ tk₂ hv1 h1₂ hs₂ => wpAny_pure ?_)
  have hTO₂ : IsPair h₂ (I + 3) a b := hs₂.extBut _ _ n03.symm (hs₁.extBut _ _ (ne_k 3 4 (by decide)) hTO)
  refine wpAny_bind (wpAny_seqItems hTO₂ rfl ?_)
  refine wpAny_bind (wpAny_updateSeq_pair hTO₂ fun h₃ hTO₃ hs₃ => ?_)
  replace hTO₃ : IsPair h₃ (I + 3) v1 b := hTO₃
  refine wpAny_bind (wpAny_letGo (wpAny_pure ?_))
  refine wpAny_bind (wpAny_bind (wpAny_onRaise ?_))
  show wpAny _ _ (Builtin.SmallTypes.nextOf (.ref (I + 1)) >>= _) _ _ _
  refine wpAny_bind ((strDraws hh (I + 1) y u).item i _ _ _ hy (((h2.extBut hs₁.extBut (ne_k 1 4 (by decide))).extBut hs₂.extBut n01.symm).extBut hs₃.extBut (ne_k 1 3 (by decide))) fun v2 h₄ tk₄ hv2 h2₄ hs₄ => wpAny_pure ?_)
  have hTO₄ : IsPair h₄ (I + 3) v1 b := hs₄.extBut _ _ (ne_k 3 1 (by decide)) hTO₃
  refine wpAny_bind (wpAny_seqItems hTO₄ rfl ?_)
  refine wpAny_bind (wpAny_updateSeq_pair hTO₄ fun h₅ hTO₅ hs₅ => ?_)
  replace hTO₅ : IsPair h₅ (I + 3) v1 v2 := hTO₅
  refine wpAny_bind (wpAny_letGo (wpAny_pure (wpAny_pure ?_)))
  refine wpAny_bind (wpAny_seqItems hTO₅ rfl ?_)
  refine wpAny_bind (wpAny_newTuple ?_)
  have hsz : h₅.objs.size = s.heap.objs.size := by rw [hs₅.1, hs₄.1, hs₃.1, hs₂.1, hs₁.1]
  have hk₅ : ∀ c o, c ≠ I + 4 → c ≠ I + 3 → c ≠ I → c ≠ I + 1 → s.heap.get? c = some o → h₅.get? c = some o := fun c o c1 c2 c3 c4 e =>
    hs₅.extBut _ _ c2 (hs₄.extBut _ _ c4 (hs₃.extBut _ _ c2 (hs₂.extBut _ _ c3 (hs₁.extBut _ _ c1 e))))
  have hz₅ : IsZip h₅ (I + 4) (I + 2) (I + 3) .ellipsis := hs₅.extBut _ _ (ne_k 4 3 (by decide)) (hs₄.extBut _ _ (ne_k 4 1 (by decide)) (hs₃.extBut _ _ (ne_k 4 3 (by decide)) (hs₂.extBut _ _ n0.symm hz₁)))
  have h1₅ : h₅.IsStrIter I (strIterType x) x t (i + 1) := ((h1₂.extBut hs₃.extBut n03).extBut hs₄.extBut n01).extBut hs₅.extBut n03
  have h2₅ : h₅.IsStrIter (I + 1) (strIterType y) y u (i + 1) := h2₄.extBut hs₅.extBut (ne_k 1 3 (by decide))
  have hzlt : I + 4 < h₅.objs.size := Heap.lt_size hz₅
  show wpAny _ _ (Builtin.SmallTypes.ownedTupleHandOut (.ref (I + 4)) (.ref h₅.objs.size) >>= _) _ _ _
  refine wpAny_bind ?_
  unfold Builtin.SmallTypes.ownedTupleHandOut
  have hz₆ : IsZip (h₅.push { cls := .type "tuple", data := .seq #[v1, v2] }) (I + 4) (I + 2) (I + 3) .ellipsis := Heap.get?_push_of_some _ hz₅
  refine wpAny_bind (wpAny_setField_rec hz₆ (by simp) fun h₇ hz₇ hs₇ => ?_)
  replace hz₇ : IsZip h₇ (I + 4) (I + 2) (I + 3) (rawInt h₅.objs.size) := hz₇
  refine wpAny_setField_rec hz₇ (by simp) fun h₈ hz₈ hs₈ => ?_
  replace hz₈ : IsZip h₈ (I + 4) (I + 2) (I + 3) (rawInt h₅.objs.size) := hz₈
  have up : ∀ c o, c ≠ I + 4 → h₅.get? c = some o → h₈.get? c = some o := fun c o c1 e => hs₈.extBut _ _ c1 (hs₇.extBut _ _ c1 (Heap.get?_push_of_some _ e))
  have hT₈ : IsPair h₈ h₅.objs.size v1 v2 := hs₈.extBut _ _ (Nat.ne_of_gt hzlt) (hs₇.extBut _ _ (Nat.ne_of_gt hzlt) (Heap.get?_push_size _ rfl))
  rw [hsz] at hz₈ hT₈
  refine wpAny_pure ⟨_, rfl, ?_⟩
  show Q (.ref h₅.objs.size) _
  rw [hsz]
  exact hQ v1 v2 h₈ _ hv1 hv2 ⟨hz₈, up _ _ (ne_k 2 4 (by decide)) (hk₅ _ _ (ne_k 2 4 (by decide)) (ne_k 2 3 (by decide)) (ne_0 2 (by decide)).symm (ne_k 2 1 (by decide)) hTI), ⟨v1, v2, up _ _ (ne_k 3 4 (by decide)) hTO₅⟩,
      isStrIter_at h1₅ fun o e => up _ o n0 e, isStrIter_at h2₅ fun o e => up _ o (ne_k 1 4 (by decide)) e⟩ hT₈ fun c o c1 c2 c3 c4 e => up c o c1 (hk₅ c o c1 c2 c3 c4 e)

/-- the first text ends no later than the second -/
theorem zipS_end {I : Addr} {x y : Str} {t u : Tok} {Q : Fin → Shared → Prop} (hh : A.handled = none) (hz : ZSt I x y t u .none x.cps.size s.heap)
    (hE : ∀ h' e, (∀ c o, c ≠ I + 4 → c ≠ I → s.heap.get? c = some o → h'.get? c = some o) → (∃ o, h'.get? e = some o ∧ o.cls = .type "StopIteration") → E (.ref e) { s with heap := h' }) :
    wpAny (model prog w) A (Builtin.«zip.__next__» ⟨[.ref (I + 4)], []⟩) Q E s := by
  obtain ⟨hz, hTI, ⟨a, b, hTO⟩, h1, h2⟩ := hz
  have n0 : I ≠ I + 4 := ne_0 4 (by decide)
  show wpAny _ _ (field (.ref (I + 4)) 2 >>= _) _ _ _
  refine wpAny_bind (wpAny_field hz rfl (x := .bool false) rfl ?_)
  show wpAny _ _ (field (.ref (I + 4)) 3 >>= _) _ _ _
  refine wpAny_bind (wpAny_field hz rfl (x := .ref (I + 2)) rfl ?_)
  refine wpAny_bind (wpAny_seqItems hTI rfl ?_)
  show wpAny _ _ (Builtin.SmallTypes.ownedTupleIsFree (.ref (I + 4)) >>= _) _ _ _
  refine wpAny_bind ?_
  unfold Builtin.SmallTypes.ownedTupleIsFree
  refine wpAny_bind (wpAny_field hz rfl (x := .none) rfl (wpAny_pure ?_))
  simp only [if_true]
  refine wpAny_bind (wpAny_rule ?_)
  refine wpAny_bind (wpAny_field hz rfl (x := .ref (I + 3)) rfl ?_)
  refine wpAny_bind (wpAny_setField_rec hz (by simp) fun h₁ hz₁ hs₁ => ?_)
  replace hz₁ : IsZip h₁ (I + 4) (I + 2) (I + 3) .ellipsis := hz₁
  refine wpAny_bind ?_
  simp only [List.zipIdx_cons, List.zipIdx_nil, List.forIn_cons, List.forIn_nil]
  refine wpAny_bind (wpAny_bind (wpAny_onRaise ?_))
  show wpAny _ _ (Builtin.SmallTypes.nextOf (.ref I) >>= _) _ _ _
  refine wpAny_bind ((strDraws hh I x t).done _ _ _ (h1.extBut hs₁.extBut n0) fun h₂ e hs₂ he => ?_)
  obtain ⟨oe, hoe, hce⟩ := he
  have hz₂ : IsZip h₂ (I + 4) (I + 2) (I + 3) .ellipsis := hs₂ _ _ n0.symm hz₁
  have hez : e ≠ I + 4 := fun q => by subst q; rw [hz₂] at hoe; cases hoe; simp at hce
  refine wpAny_setField_rec hz₂ (by simp) fun h₃ _ hs₃ => hE h₃ e (fun c o c1 c3 q => hs₃.extBut _ _ c1 (hs₂ _ _ c3 (hs₁.extBut _ _ c1 q))) ⟨oe, hs₃.extBut _ _ hez hoe, hce⟩
end

theorem walksT_zipS {prog : Program} {w : World} {A : Around} (hh : A.handled = none) (I : Addr) (x y : Str) (t u : Tok) (hxy : x.cps.size ≤ y.cps.size) :
    WalksT prog w A (I + 4) [I + 4, I + 2, I + 3, I, I + 1] [I + 4, I + 3, I, I + 1] x.cps.size
      (fun i vals => ∃ v1 v2, SignAt x i v1 ∧ SignAt y i v2 ∧ vals = #[v1, v2])
      (fun i h => ZSt I x y t u .none i h)
      (fun i T h => ZSt I x y t u (rawInt T) (i + 1) h ∧ T ≠ I + 4 ∧ T ≠ I + 3 ∧ T ≠ I ∧ T ≠ I + 1) where
  sub := fun c hc => by simp at hc ⊢; rcases hc with rfl | rfl | rfl | rfl <;> simp
  frame := fun i h h' hst hk => by
    obtain ⟨hz, hTI, ⟨a, b, hTO⟩, h1, h2⟩ := hst
    exact ⟨hk (I + 4) (by simp) _ hz, hk (I + 2) (by simp) _ hTI, ⟨a, b, hk (I + 3) (by simp) _ hTO⟩, isStrIter_at h1 fun o e => hk I (by simp) o e, isStrIter_at h2 fun o e => hk (I + 1) (by simp) o e⟩
  item := fun i s Q E hi hst hQ => by
    have hT : s.TypeIs (.ref (I + 4)) "zip" := ⟨_, hst.1, rfl⟩
    unfold pyNext
    refine wpAny_bind (wpAny_attempt (wpAny_callSpecial?_slot (name := Str.ofString "__next__") hT F.slot_zip_next
      (wpAny_call_entry F.slot_zip_next hT F.entry_zip_next
        (zipS_item hh hst hi (Nat.lt_of_lt_of_le hi hxy) fun v1 v2 h' tk q1 q2 q3 q4 hk => wpAny_pure ?_) (F.args_zip_next_1 _))))
    have lt : ∀ {c o}, s.heap.get? c = some o → s.heap.objs.size ≠ c := fun e => Nat.ne_of_gt (Heap.lt_size e)
    obtain ⟨a1, a2, ⟨a, b, a3⟩, ⟨o4, a4, _⟩, ⟨o5, a5, _⟩⟩ := hst
    exact hQ s.heap.objs.size #[v1, v2] h' tk ⟨v1, v2, q1, q2, rfl⟩ (Nat.le_refl _) ⟨_, q4, rfl, _, rfl⟩ ⟨q3, lt a1, lt a3, lt a4, lt a5⟩
      fun c o hc e => hk c o (fun x => hc (by simp [x])) (fun x => hc (by simp [x])) (fun x => hc (by simp [x])) (fun x => hc (by simp [x])) e
  go := fun elts k pos i T s Q E hm hQ => by
    obtain ⟨⟨hz, hTI, ⟨a, b, hTO⟩, h1, h2⟩, _⟩ := hm
    have n0 : I ≠ I + 4 := ne_0 4 (by decide)
    refine wpAny_letOwnedTupleGo_zip hz fun h' hz' hs' => hQ h' ⟨hz', hs'.extBut _ _ (ne_k 2 4 (by decide)) hTI, ⟨a, b, hs'.extBut _ _ (ne_k 3 4 (by decide)) hTO⟩, h1.extBut hs'.extBut n0, h2.extBut hs'.extBut (ne_k 1 4 (by decide))⟩
      fun c o hc e => hs'.extBut _ _ (fun x => hc (by simp [x])) e
  apart := fun i T h hm hT => by
    obtain ⟨_, t1, t2, t3, t4⟩ := hm
    simp at hT
    rcases hT with rfl | rfl | rfl | rfl
    · exact t1 rfl
    · exact t2 rfl
    · exact t3 rfl
    · exact t4 rfl
  done := fun s Q E hst hQ => by
    have hT : s.TypeIs (.ref (I + 4)) "zip" := ⟨_, hst.1, rfl⟩
    unfold pyNext
    refine wpAny_bind (wpAny_attempt (wpAny_callSpecial?_slot (name := Str.ofString "__next__") hT F.slot_zip_next
      (wpAny_call_entry F.slot_zip_next hT F.entry_zip_next (zipS_end hh hst fun h' e hk he => ?_) (F.args_zip_next_1 _))))
    obtain ⟨o, ho, hc⟩ := he
    refine wpAny_bind (wpAny_isInstance (T := "StopIteration") (b := true) ⟨o, ho, hc⟩ isSubtype_stop ?_)
    exact wpAny_pure (hQ _ _ fun c o hc e => hk c o (fun x => hc (by simp [x])) (fun x => hc (by simp [x])) e)
  self := fun i s Q E hst hQ => wpAny_pyIter_zip hst.1 hQ
end Mine
end

section
open PySem PySem.W PyProof.Rows PySem.Calls
set_option Elab.async false
set_option maxRecDepth 100000
set_option maxHeartbeats 2000000
set_option linter.unusedVariables false
namespace Mine

/-- a turn's end: the one object at l has become another of which P holds, all else stands -/
def TurnEnd (h₀ : Heap) (L l : Addr) (rest : List (Addr × Obj)) (P : Obj → Prop) (M : (Str → Option Value) → Prop) (s₁ : Shared) (f : Flow) (s₂ : Shared) : Prop :=
  f = .next ∧ ∃ h' tk m' o', s₂ = { s₁ with heap := h', toks := tk } ∧ Fr h₀ L h' m' ∧ M m' ∧ News h₀ L h' ((l, o') :: rest) ∧ P o'

theorem TurnEnd.intro {h₀ : Heap} {L l : Addr} {rest : List (Addr × Obj)} {P : Obj → Prop} {M : (Str → Option Value) → Prop} {s₁ : Shared} {h' : Heap} {tk : Nat} {m' : Str → Option Value} {o' : Obj}
    (F : Fr h₀ L h' m') (N : News h₀ L h' ((l, o') :: rest)) (hM : M m') (hP : P o') : TurnEnd h₀ L l rest P M s₁ .next { s₁ with heap := h', toks := tk } :=
  ⟨rfl, h', tk, m', o', rfl, F, hM, N, hP⟩

section
variable {prog : Program} {w : World} {A : Around} {E : Value → Shared → Prop} {s : Shared} {env : Env} {h₀ : Heap} {body : List Stmt} {Q : Flow → Shared → Prop} {xi xc : Str} {m : Str → Option Value} {l : Addr} {o : Obj} {rest : List (Addr × Obj)}

theorem zip_obj {x y : Str} {t u : Tok} (hh : A.handled = none) (hxy : x.cps.size ≤ y.cps.size) (F : Fr h₀ env.locals s.heap m) (N : News h₀ env.locals s.heap ((l, o) :: rest)) (hoff : ∀ p ∈ rest, p.1 ≠ l)
    (P : Nat → Obj → Prop) (h0 : P 0 o)
    (turn : ∀ i c a t1 t2 h tk o₁ rest₁, x.cps[i]? = some c → y.cps[i]? = some a → P i o₁ → (∀ p ∈ rest₁, p.1 ≠ l) →
      Fr h₀ env.locals h (fun z => if z = xc then some (.str ⟨#[a]⟩ t2) else if z = xi then some (.str ⟨#[c]⟩ t1) else m z) → News h₀ env.locals h ((l, o₁) :: rest₁) →
      wpAny (model prog w) A (execs body env) (TurnEnd h₀ env.locals l rest₁ (P (i + 1)) (fun m' => ∀ z, z ≠ xi → z ≠ xc → m' z = m z) { s with heap := h, toks := tk }) E { s with heap := h, toks := tk })
    (fin : ∀ h tk o₁ m', P x.cps.size o₁ → (∀ z, z ≠ xi → z ≠ xc → m' z = m z) → Fr h₀ env.locals h m' → News h₀ env.locals h ((l, o₁) :: rest) → Q .next { s with heap := h, toks := tk }) :
    wpAny (model prog w) A (call (.type "zip") [.str x t, .str y u]) (fun xv s₁ => wpAny (model prog w) A (pyIter xv) (fun it s₂ => PairAt3 prog w A h₀ env xi xc body Q E it s₂) E s₁) E s := by
  have hLs : env.locals < s.heap.objs.size := F.ns.lt
  refine call_zip_str fun h' I hI hz hTI hTO hi1 hi2 hk => ?_
  refine wpAny_pyIter_zip hz ?_
  have hlt : ∀ p ∈ (l, o) :: rest, p.1 < I := fun p hp => hI ▸ Heap.lt_size (N p hp).1
  have hfpge : ∀ b ∈ [I + 4, I + 2, I + 3, I, I + 1], I ≤ b := by
    intro b hb
    simp at hb
    rcases hb with rfl | rfl | rfl | rfl | rfl
    · exact Nat.le_add_right _ _
    · exact Nat.le_add_right _ _
    · exact Nat.le_add_right _ _
    · exact Nat.le_refl _
    · exact Nat.le_add_right _ _
  have hwrge : ∀ b ∈ [I + 4, I + 3, I, I + 1], I ≤ b := fun b hb => hfpge b (by simp at hb ⊢; rcases hb with rfl | rfl | rfl | rfl <;> simp)
  refine ⟨I + 4, [I + 4, I + 2, I + 3, I, I + 1], [I + 4, I + 3, I, I + 1], x.cps.size, _, _, _, (fun i v1 v2 => SignAt x i v1 ∧ SignAt y i v2), m, (l, o) :: rest,
    (fun i m₁ news₁ => (∀ z, z ≠ xi → z ≠ xc → m₁ z = m z) ∧ ∃ o₁, news₁ = (l, o₁) :: rest ∧ P i o₁), rfl, walksT_zipS hh I x y t u hxy, ?_, ?_, ?_, ?_, ?_, F.keeps hk, N.grown hk, ?_, ?_, ?_⟩
  · rintro i vals ⟨v1, v2, q1, q2, rfl⟩
    exact ⟨v1, v2, rfl, q1, q2⟩
  · exact fun hb => absurd (hfpge _ hb) (Nat.not_le.mpr (hI ▸ hLs))
  · exact fun b hb => ktu_new F (hI ▸ hwrge b hb)
  · exact fun p hp hb => absurd (hwrge _ hb) (Nat.not_le.mpr (hlt p hp))
  · exact ⟨hz, hTI, ⟨_, _, hTO⟩, hi1, hi2⟩
  · exact ⟨fun _ _ _ => rfl, o, rfl, h0⟩
  · rintro i v0 v1 m₁ news₁ s₁ own ⟨h₁, tk₁, rfl⟩ hi ⟨⟨c, t1, hc, rfl⟩, ⟨a, t2, ha, rfl⟩⟩ ⟨hm, o₁, rfl, hP⟩ _ hown F₁ N₁
    have hl : l < I := hlt (l, o) (.head _)
    have hfun : (fun z => if z = xc then some (Value.str ⟨#[a]⟩ t2) else if z = xi then some (Value.str ⟨#[c]⟩ t1) else m₁ z) = (fun z => if z = xc then some (.str ⟨#[a]⟩ t2) else if z = xi then some (.str ⟨#[c]⟩ t1) else m z) := by
      funext z
      by_cases h1 : z = xc
      · simp [h1]
      · by_cases h2 : z = xi
        · simp [h1, h2]
        · simp [h1, h2, hm z h2 h1]
    rw [hfun] at F₁
    have ho : ∀ p ∈ own ++ rest, p.1 ≠ l := by
      intro p hp
      rcases List.mem_append.mp hp with hp | hp
      · exact fun e => absurd (hfpge _ (hown p hp)) (Nat.not_le.mpr (e ▸ hl))
      · exact hoff p hp
    have N₂ : News h₀ env.locals h₁ ((l, o₁) :: (own ++ rest)) := fun p hp => N₁ p (by
      rcases List.mem_cons.mp hp with rfl | hp
      · exact List.mem_append_right _ (.head _)
      · rcases List.mem_append.mp hp with hp | hp
        · exact List.mem_append_left _ hp
        · exact List.mem_append_right _ (.tail _ hp))
    refine wpAny_mono (turn i c a t1 t2 h₁ tk₁ o₁ (own ++ rest) hc ha hP ho F₁ N₂) (fun f s₃ h₃ => ?_) fun _ _ e => e
    obtain ⟨rfl, h₃', tk₃, m₃, o₃, rfl, F₃, hM₃, N₃, hP₃⟩ := h₃
    refine ⟨rfl, h₃', tk₃, m₃, (l, o₃) :: rest, rfl, F₃, fun p hp => N₃ p ?_, rfl, hM₃, o₃, rfl, hP₃⟩
    rcases List.mem_append.mp hp with hp | hp
    · exact .tail _ (List.mem_append_left _ hp)
    · rcases List.mem_cons.mp hp with rfl | hp
      · exact .head _
      · exact .tail _ (List.mem_append_right _ hp)
  · rintro h₁ tk₁ m₁ news₁ F₁ N₁ _ ⟨hm, o₁, rfl, hP⟩
    exact fin h₁ tk₁ o₁ m₁ hP hm F₁ N₁
end
end Mine
end

section
open PySem PySem.W PyProof.Rows PySem.Calls
set_option Elab.async false
set_option maxRecDepth 100000
set_option maxHeartbeats 2000000
set_option linter.unusedVariables false
namespace Mine
section
variable {prog : Program} {w : World} {A : Around} {E : Value → Shared → Prop} {s : Shared} {h₀ : Heap} {L l : Addr} {m : Str → Option Value} {rest : List (Addr × Obj)} {us : List Value} {v v0 : Value} {n : Nat} {t : Tok}

theorem idx_last : seqIndex? (-1) (us ++ [v0]).toArray.size = some us.length := by
  rw [seqIndex_neg (by decide) (by simp; omega)]
  simp
  omega

theorem get_last {value slice : PySem.Expr} {Q : Value → Shared → Prop} (N : News h₀ L s.heap ((l, W.listOf (us ++ [v0]).toArray n) :: rest)) (h : Q v0 s)
    (hs : subscripted slice false (.ref l) (.int (-1) t) = operate [.ref l, .int (-1) t] (getItem (.ref l) (.int (-1) t)) := by with_unfolding_all rfl) :
    wpAny (model prog w) A (subscriptTail value slice (.ref l) (.int (-1) t)) Q E s := by
  have hl : s.heap.IsList l (us ++ [v0]).toArray := PySem.IsL.isList (n := n) (N _ (.head _)).1
  refine tail_any hl.typeIs slot_list_getitem.lookup (wpAny_getItem_list_neg hl (by decide) (by simp; omega) (by decide) ?_ h) hs
  have : ((-1 : Int) + (us ++ [v0]).toArray.size).toNat = us.length := by simp; omega
  rw [this]
  simp

theorem set_last_at {Q : Unit → Shared → Prop} (ho : s.heap.get? l = some (W.listOf (us ++ [v0]).toArray n))
    (hQ : Q () { s with heap := s.heap.update l (Obj.mapSeq (·.setIfInBounds us.length v)) }) : wpAny (model prog w) A (setItem (.ref l) (.int (-1) t) v) Q E s := by
  have hl : s.heap.IsList l (us ++ [v0]).toArray := PySem.IsL.isList (n := n) ho
  unfold setItem
  try with_reducible refine wpAny_holding ?_
  first | refine wpAny_bind (wpAny_pure ?_) | skip
  refine wpAny_bind (wpAny_sequenceKey hl.typeIs (by decide) ?_)
  refine wpAny_bind (wpAny_callSpecial?_slot (name := Str.ofString "__setitem__") hl.typeIs slot_list_setitem
    (wpAny_call_entry slot_list_setitem hl.typeIs entry_list_setitem ?_ (args_list_setitem _ _ _)))
  show wpAny _ _ (Builtin.List.listSubscript? (.int (-1) t) >>= _) _ _ s
  refine wpAny_bind (wpAny_listSubscript_int (fitsIndex_neg (by decide) (by decide)) ?_)
  show wpAny _ _ ((Builtin.List.listItems (.ref l) >>= fun xs => pure ((seqIndex? (Int.negSucc 0) xs.size).bind fun i => xs[i]?.map (i, ·))) >>= _) _ _ s
  refine wpAny_bind (wpAny_bind ?_)
  show wpAny _ _ (seqItems? (.ref l) >>= _) _ _ s
  refine wpAny_bind (wpAny_seqItems ho rfl (wpAny_pure (wpAny_pure ?_)))
  have e : seqIndex? (Int.negSucc 0) (us ++ [v0]).toArray.size = some us.length := idx_last
  rw [e]
  have e2 : (us ++ [v0]).toArray[us.length]? = some v0 := by simp
  simp only [Option.bind_some, e2, Option.map_some]
  show wpAny _ _ (setSeqItemAt l us.length v >>= _) _ _ s
  refine wpAny_bind (wpAny_setSeqItemAt ho rfl ?_)
  first
    | exact wpAny_bind (wpAny_pure (wpAny_pure ⟨.none, rfl, wpAny_pure hQ⟩))
    | exact wpAny_pure ⟨.none, rfl, wpAny_pure hQ⟩

theorem set_last {Q : Unit → Shared → Prop} (F : Fr h₀ L s.heap m) (N : News h₀ L s.heap ((l, W.listOf (us ++ [v0]).toArray n) :: rest)) (off : ∀ p ∈ rest, p.1 ≠ l)
    (h : ∀ h', Fr h₀ L h' m → News h₀ L h' ((l, W.listOf (us ++ [v]).toArray n) :: rest) → Q () { s with heap := h' }) :
    wpAny (model prog w) A (setItem (.ref l) (.int (-1) t) v) Q E s := by
  have z := N _ (.head _)
  refine set_last_at z.1 (h _ (F.change (Heap.SameBut.update ..) z.2.1 z.2.2) (ki_turn (pre := []) _ N (fun _ hp => nomatch hp) off ?_ ?_))
  · apply Array.toList_inj.mp
    simp
  · simp

theorem app_last {Q : Value → Shared → Prop} (F : Fr h₀ L s.heap m) (N : News h₀ L s.heap ((l, W.listOf us.toArray n) :: rest)) (off : ∀ p ∈ rest, p.1 ≠ l) (hsz : us.length ≤ sizeLine)
    (h : ∀ h', Fr h₀ L h' m → News h₀ L h' ((l, W.listOf (us ++ [v]).toArray (n + 1)) :: rest) → Q .none { s with heap := h' }) :
    wpAny (model prog w) A (call (.builtin "list.append") [.ref l, v]) Q E s := by
  refine append_K F N (.head off) (fun h' F' N' => h h' F' ?_) (by simpa using hsz)
  rw [List.push_toArray] at N'
  exact N'
end
end Mine
end

section
open PySem PySem.W PyProof.Rows PySem.Calls
set_option Elab.async false
set_option maxRecDepth 100000
set_option maxHeartbeats 2000000
set_option linter.unusedVariables false
namespace Mine

/-! the rows by a scan from the left -/
def glueR (R : List (List Nat)) (r : List Nat) : List (List Nat) → List (List Nat)
  | [] => R ++ [r]
  | x :: xs => R ++ (r ++ x) :: xs

theorem glueR_end (R : List (List Nat)) (r : List Nat) : glueR R r [[]] = R ++ [r] := by simp [glueR]
theorem glueR_new (R : List (List Nat)) (r : List Nat) {xs : List (List Nat)} (h : xs ≠ []) : glueR R r ([] :: xs) = glueR (R ++ [r]) [] xs := by
  cases xs with
  | nil => exact absurd rfl h
  | cons y ys => simp [glueR]
theorem glueR_sign (R : List (List Nat)) (r : List Nat) (c : Nat) {xs : List (List Nat)} (h : xs ≠ []) : glueR R r (consHead c xs) = glueR R (r ++ [c]) xs := by
  cases xs with
  | nil => exact absurd rfl h
  | cons y ys => simp [glueR, consHead]

def aheadAt (x : Str) (i : Nat) : Nat := (32 :: x.cps.toList)[i]?.getD 0

/-- the rows that the loop has read when it has taken i signs of x -/
def RowsAt (x : Str) (i : Nat) (R : List Str) (r : Str) : Prop :=
  rowsF 32 x.cps.toList = glueR (R.map (·.cps.toList)) r.cps.toList (rowsF (aheadAt x i) (x.cps.toList.drop i)) ∧ R.length ≤ i ∧ r.length ≤ i

section
variable {x : Str} {i c a : Nat} {R : List Str} {r : Str}
theorem RowsAt.start : RowsAt x 0 [] (Str.ofString "") := by
  refine ⟨?_, Nat.le_refl _, by decide +kernel⟩
  have e : (Str.ofString "").cps.toList = [] := by decide +kernel
  rw [e]
  have h := rowsF_ne x.cps.toList 32
  show _ = glueR [] [] (rowsF 32 x.cps.toList)
  cases hq : rowsF 32 x.cps.toList with
  | nil => exact absurd hq h
  | cons y ys => rfl
theorem aheadAt_succ (hc : x.cps[i]? = some c) : aheadAt x (i + 1) = c := by simp [aheadAt, hc]
theorem drop_at (hc : x.cps[i]? = some c) : x.cps.toList.drop i = c :: x.cps.toList.drop (i + 1) := by
  obtain ⟨h, e⟩ := Array.getElem?_eq_some_iff.mp hc
  rw [drop_cons h, e]
theorem aheadAt_of (ha : (Str.ofString " " ++ x).cps[i]? = some a) : aheadAt x i = a := by
  have e : (Str.ofString " " ++ x).cps = (32 :: x.cps.toList).toArray := by
    rw [Str.cps_append]
    have : (Str.ofString " ").cps = #[32] := by decide +kernel
    rw [this]
    apply Array.toList_inj.mp
    simp
  rw [e] at ha
  have : (32 :: x.cps.toList)[i]? = some a := by simpa using ha
  simp [aheadAt, this]
theorem RowsAt.new (h : RowsAt x i R r) (hc : x.cps[i]? = some c) (ha : (Str.ofString " " ++ x).cps[i]? = some a) (hn : c = 13 ∨ (c = 10 ∧ a ≠ 13)) : RowsAt x (i + 1) (R ++ [r]) (Str.ofString "") := by
  obtain ⟨h1, h2, h3⟩ := h
  refine ⟨?_, by simp; omega, by have : (Str.ofString "").length = 0 := by decide +kernel
                                 omega⟩
  have e : (Str.ofString "").cps.toList = [] := by decide +kernel
  rw [h1, drop_at hc, rowsF, aheadAt_of ha, if_pos hn, glueR_new _ _ (rowsF_ne _ _), aheadAt_succ hc, e]
  simp
theorem RowsAt.stay (h : RowsAt x i R r) (hc : x.cps[i]? = some c) (ha : (Str.ofString " " ++ x).cps[i]? = some a) (hn : ¬ (c = 13 ∨ (c = 10 ∧ a ≠ 13))) (h10 : c = 10) : RowsAt x (i + 1) R r := by
  obtain ⟨h1, h2, h3⟩ := h
  refine ⟨?_, by omega, by omega⟩
  rw [h1, drop_at hc, rowsF, aheadAt_of ha, if_neg hn, if_pos h10, aheadAt_succ hc]
theorem RowsAt.sign (h : RowsAt x i R r) (hc : x.cps[i]? = some c) (ha : (Str.ofString " " ++ x).cps[i]? = some a) (hn : ¬ (c = 13 ∨ (c = 10 ∧ a ≠ 13))) (h10 : c ≠ 10) : RowsAt x (i + 1) R (r ++ ⟨#[c]⟩) := by
  obtain ⟨h1, h2, h3⟩ := h
  have e : (r ++ ⟨#[c]⟩ : Str).cps = r.cps ++ #[c] := Str.cps_append ..
  refine ⟨?_, by omega, ?_⟩
  · rw [h1, drop_at hc, rowsF, aheadAt_of ha, if_neg hn, if_neg h10, glueR_sign _ _ _ (rowsF_ne _ _), aheadAt_succ hc, e]
    simp
  · show (r ++ ⟨#[c]⟩ : Str).cps.size ≤ i + 1
    have h3' : r.cps.size ≤ i := h3
    rw [e]; simp; omega
theorem RowsAt.last (h : RowsAt x x.cps.size R r) : (R ++ [r]).map (·.cps.toList) = rowsF 32 x.cps.toList := by
  rw [h.1]
  have : x.cps.toList.drop x.cps.size = [] := drop_none (Nat.le_refl _)
  rw [this]
  simp [rowsF, glueR]
end

theorem one_is (c : Nat) : ((⟨#[c]⟩ : Str) == Str.ofString "\r") = decide (c = 13) ∧ ((⟨#[c]⟩ : Str) == Str.ofString "\n") = decide (c = 10) := by
  have e1 : Str.ofString "\r" = ⟨#[13]⟩ := by decide +kernel
  have e2 : Str.ofString "\n" = ⟨#[10]⟩ := by decide +kernel
  rw [e1, e2]
  constructor
  · by_cases h : c = 13
    · subst h; decide +kernel
    · rw [decide_eq_false h]
      exact beq_eq_false_iff_ne.mpr fun q => h (by injection q with q; injection q with q; injection q)
  · by_cases h : c = 10
    · subst h; decide +kernel
    · rw [decide_eq_false h]
      exact beq_eq_false_iff_ne.mpr fun q => h (by injection q with q; injection q with q; injection q)

/-- the list's object when i signs are taken -/
def rowsP (x : Str) (i : Nat) (o : Obj) : Prop := ∃ us r t n R, o = W.listOf (us ++ [Value.str r t]).toArray n ∧ StrsAre us R ∧ RowsAt x i R r

section
variable {x : Str} {i c a n : Nat} {R : List Str} {r : Str} {us : List Value} {t t' : Tok} (hR : RowsAt x i R r) (hS : StrsAre us R) (hc : x.cps[i]? = some c) (ha : (Str.ofString " " ++ x).cps[i]? = some a)
include hR hS hc ha
theorem way_cr (h1 : ((⟨#[c]⟩ : Str) == Str.ofString "\r") = true) : rowsP x (i + 1) (W.listOf (us ++ [Value.str r t] ++ [Value.str (Str.ofString "") t']).toArray n) := by
  rw [(one_is c).1] at h1
  exact ⟨_, _, _, _, _, rfl, StrsAre.append' hS (.cons _ _ .nil), hR.new hc ha (.inl (by simpa using h1))⟩
theorem way_lf (h1 : ((⟨#[c]⟩ : Str) == Str.ofString "\n") = true) (h2 : ((⟨#[a]⟩ : Str) != Str.ofString "\r") = true) : rowsP x (i + 1) (W.listOf (us ++ [Value.str r t] ++ [Value.str (Str.ofString "") t']).toArray n) := by
  rw [bne, (one_is a).1] at h2
  rw [(one_is c).2] at h1
  exact ⟨_, _, _, _, _, rfl, StrsAre.append' hS (.cons _ _ .nil), hR.new hc ha (.inr ⟨by simpa using h1, by simpa using h2⟩)⟩
theorem way_stay (h1 : ((⟨#[c]⟩ : Str) == Str.ofString "\r") = false) (h2 : ((⟨#[c]⟩ : Str) == Str.ofString "\n") = true) (h3 : ((⟨#[a]⟩ : Str) != Str.ofString "\r") = false) : rowsP x (i + 1) (W.listOf (us ++ [Value.str r t]).toArray n) := by
  rw [bne, (one_is a).1] at h3
  rw [(one_is c).1] at h1
  rw [(one_is c).2] at h2
  have e1 : c ≠ 13 := by simpa using h1
  have e2 : c = 10 := by simpa using h2
  have e3 : a = 13 := by simpa using h3
  exact ⟨_, _, _, _, _, rfl, hS, hR.stay hc ha (by rintro (q | q); exact e1 q; exact q.2 e3) e2⟩
theorem way_sign (h1 : ((⟨#[c]⟩ : Str) == Str.ofString "\r") = false) (h2 : ((⟨#[c]⟩ : Str) == Str.ofString "\n") = false) : rowsP x (i + 1) (W.listOf (us ++ [Value.str (r ++ ⟨#[c]⟩) t]).toArray n) := by
  rw [(one_is c).1] at h1
  rw [(one_is c).2] at h2
  have e1 : c ≠ 13 := by simpa using h1
  have e2 : c ≠ 10 := by simpa using h2
  exact ⟨_, _, _, _, _, rfl, hS, hR.sign hc ha (by rintro (q | q); exact e1 q; exact e2 q.1) e2⟩
end
theorem way_no {x y : Str} {P : Prop} {b : Bool} (h1 : (x == y) = b) (h2 : (x != y) = b) : P := by
  rw [bne, h1] at h2
  cases b <;> cases h2
theorem names_self {m : Str → Option Value} {xi xc : Str} {v1 v2 : Option Value} : ∀ z, z ≠ xi → z ≠ xc → (fun z => if z = xc then v1 else if z = xi then v2 else m z) z = m z := by
  intro z h1 h2
  simp [h1, h2]

section
variable {prog : Program} {w : World} {A : Around} {E : Value → Shared → Prop} {s : Shared} {env : Env} {h₀ : Heap} {body : List Stmt} {Q : Flow → Shared → Prop} {xi xc : Str} {m : Str → Option Value} {l : Addr} {rest : List (Addr × Obj)} {n : Nat}

theorem twoNames {m' m : Str → Option Value} (hm : ∀ z, z ≠ xi → z ≠ xc → m' z = m z) : m' = fun z => if z = xc then m' xc else if z = xi then m' xi else m z := by
  funext z
  by_cases h1 : z = xc
  · simp [h1]
  · by_cases h2 : z = xi
    · subst h2; simp [h1]
    · simp [h1, h2, hm z h2 h1]

theorem zip_rows {x : Str} {t u t0 : Tok} (hh : A.handled = none) (F : Fr h₀ env.locals s.heap m) (N : News h₀ env.locals s.heap ((l, W.listOf #[Value.str (Str.ofString "") t0] n) :: rest)) (hoff : ∀ p ∈ rest, p.1 ≠ l) (hx : x.length ≤ 2 ^ 10)
    (turn : ∀ (i c a : Nat) (t1 t2 : Tok) (h : Heap) (tk : Nat) (us : List Value) (r : Str) (t3 : Tok) (n : Nat) (R : List Str) (rest₁ : List (Addr × Obj)), x.cps[i]? = some c → (Str.ofString " " ++ x).cps[i]? = some a → us.length ≤ 2 ^ 10 → r.length ≤ 2 ^ 10 → StrsAre us R → RowsAt x i R r → (∀ p ∈ rest₁, p.1 ≠ l) →
      Fr h₀ env.locals h (fun z => if z = xc then some (.str ⟨#[a]⟩ t2) else if z = xi then some (.str ⟨#[c]⟩ t1) else m z) → News h₀ env.locals h ((l, W.listOf (us ++ [Value.str r t3]).toArray n) :: rest₁) →
      wpAny (model prog w) A (execs body env) (TurnEnd h₀ env.locals l rest₁ (rowsP x (i + 1)) (fun m' : Str → Option Value => ∀ z, z ≠ xi → z ≠ xc → m' z = m z) { s with heap := h, toks := tk }) E { s with heap := h, toks := tk })
    (fin : ∀ (h : Heap) (tk : Nat) (us : List Value) (R : List Str) (n : Nat) (v1 v2 : Option Value), StrsAre us R → R.map (·.cps.toList) = rowsF 32 x.cps.toList → Fr h₀ env.locals h (fun z => if z = xc then v1 else if z = xi then v2 else m z) → News h₀ env.locals h ((l, W.listOf us.toArray n) :: rest) → Q .next { s with heap := h, toks := tk }) :
    wpAny (model prog w) A (call (.type "zip") [Value.str x t, .str (Str.ofString " " ++ x) u]) (fun xv s₁ => wpAny (model prog w) A (pyIter xv) (fun it s₂ => PairAt3 prog w A h₀ env xi xc body Q E it s₂) E s₁) E s := by
  have hx' : x.cps.size ≤ 2 ^ 10 := hx
  refine zip_obj hh ?_ F N hoff (rowsP x) ⟨[], _, _, _, [], rfl, .nil, RowsAt.start⟩ ?_ ?_
  · rw [Str.cps_append]; simp
  · rintro i c a t1 t2 h tk o₁ rest₁ hc ha ⟨us, r, t3, n, R, rfl, hS, hR⟩ ho F₁ N₁
    have hi : i < x.cps.size := (Array.getElem?_eq_some_iff.mp hc).1
    exact turn i c a t1 t2 h tk us r t3 n R rest₁ hc ha (by have := hR.2.1; have := hS.length; omega) (by have := hR.2.2; omega) hS hR ho F₁ N₁
  · rintro h tk o₁ m' ⟨us, r, t3, n, R, rfl, hS, hR⟩ hm F₁ N₁
    exact fin h tk _ (R ++ [r]) n (m' xc) (m' xi) (StrsAre.append' hS (.cons _ _ .nil)) hR.last (twoNames hm ▸ F₁) N₁
end
end Mine
end

section
open PySem PySem.W PyProof.Rows PySem.Calls
set_option Elab.async false
set_option maxRecDepth 100000
set_option maxHeartbeats 2000000
set_option linter.unusedVariables false
namespace Mine

abbrev LRet (h₀ : Heap) (L : Addr) (m : Str → Option Value) (news : List (Addr × Obj)) (s : Shared) (Q : Value → Shared → Prop) (R : List Value → Prop) : Prop :=
  ∀ (l : Addr) (us : List Value) (n : Nat) (h' : Heap) (tk' : Nat), R us → (∀ p ∈ news, p.1 < l) → Fr h₀ L h' m → News h₀ L h' ((l, W.listOf us.toArray n) :: news) → Q (.ref l) { s with heap := h', toks := tk' }

abbrev LClaim (prog : Program) (w : World) (K : Frag) (p : Program) (loose : List Str) (mean : ExcName → Option Value) (mg mb : Str → Option Value) (f : Addr) (news : List (Addr × Obj)) (pre : Prop) (vs : List Value) (R : List Value → Prop) : Prop :=
  ∀ (dp un : Nat) (gd : Option (List Code)) (cn : Str) (cs : Scope) (a : Addr) (ccd : Value) (cl : List (Str × Addr)) (outer : List Env) (A₀ : Around) (base h₀ : Heap) (L : Addr) (m : Str → Option Value) (s : Shared) (Q E : Value → Shared → Prop),
    Below A₀ base outer h₀ → Fr h₀ L s.heap m → K.In h₀ → News h₀ L s.heap news → Top p loose mean mg mb h₀ → cs.kind = .function →
    (pre → dp + 1 < recursionLimit → un + 8 < cLine → LRet h₀ L m news s Q R →
      wpAny (model prog w) (ktrTop dp un gd cn cs L a ccd cl outer) (call (.ref f) vs) Q E s)

theorem below_ne {news : List (Addr × Obj)} {l : Addr} (h : ∀ p ∈ news, p.1 < l) : ∀ p ∈ news, p.1 ≠ l := fun p hp => Nat.ne_of_lt (h p hp)

theorem app_fits {us : List Value} {v : Value} (h : us.length ≤ 2 ^ 10) : (us ++ [v]).length ≤ sizeLine := by
  have : (2 : Nat) ^ 10 + 1 ≤ sizeLine := by decide +kernel
  simp; omega
local macro_rules | `(tactic| walk_at "no such key") => `(tactic| fail)
local macro_rules | `(tactic| walk_at "call type:zip") => `(tactic| (k_here; (show wpAny _ _ (call (Value.type "zip") [Value.str _ _, Value.str _ _]) _ _ _); refine zip_rows rfl (by k_asm) (by k_asm) (below_ne (by assumption)) (by assumption) ?_ ?_ <;> intros))

local macro_rules | `(tactic| walk_at "call builtin:list.append") => `(tactic| (k_here; (show wpAny _ _ (call (Value.builtin "list.append") [Value.ref _, Value.str _ _]) _ _ _); refine app_last (by k_asm) (by k_asm) (by assumption) (by first | exact app_fits (by assumption)) ?_; intro h' F' N'))
local macro_rules | `(tactic| walk_at "subscriptTail") => `(tactic| (k_here; (with_reducible show wpAny _ _ (subscriptTail _ _ (Value.ref _) (Value.int (-1) _)) _ _ _); refine get_last (by k_asm) ?_ (by with_unfolding_all rfl)))
local macro_rules | `(tactic| walk_at "setItem ref int") => `(tactic| (k_here; (with_reducible show wpAny _ _ (setItem (Value.ref _) (Value.int (-1) _) _) _ _ _); refine set_last (by k_asm) (by k_asm) (by assumption) ?_; intro h' F' N'))

theorem rows_claim (w : World) (loose : List Str) (mean : ExcName → Option Value) (mg mb : Str → Option Value) (news : CbLed) (x : Str) (t : Tok) :
   LClaim PySem.Challenge.rw_mj0037_01.row.prog w (Mine.hd.heap_39 w.params) Mine.hd.view_39 loose mean mg mb 67 news (x.length ≤ 2^10) [.str x t] (fun us => ∃ R, StrsAre us R ∧ R.map (·.cps.toList) = rowsF 32 x.cps.toList) := by
  w_on
  k_fill
  dsimp only [LClaim, LRet]; intros; rename_i hret
  refine wpAny_call ?_
  k_dflt cell_enter
  w_strict (k_steps; all_goals (first
    | exact hret _ _ _ _ _ ⟨_, by assumption, by assumption⟩ (by assumption) (by assumption) (by assumption)
    | exact way_no (x := ⟨#[_]⟩) (y := Str.ofString "\n") (b := true) (by assumption) (by assumption)
    | exact way_no (x := ⟨#[_]⟩) (y := Str.ofString "\n") (b := false) (by assumption) (by assumption)
    | (refine TurnEnd.intro (by k_asm) (by k_asm) names_self ?_
       first
         | exact way_cr (by assumption) (by assumption) (by assumption) (by assumption) (by assumption)
         | exact way_lf (by assumption) (by assumption) (by assumption) (by assumption) (by assumption) (by assumption)
         | exact way_stay (by assumption) (by assumption) (by assumption) (by assumption) (by assumption) (by assumption) (by assumption)
         | exact way_sign (by assumption) (by assumption) (by assumption) (by assumption) (by assumption) (by assumption))))
end Mine
end

section
open PySem PySem.W PyProof.Rows PySem.Calls
set_option Elab.async false
set_option maxRecDepth 100000
set_option maxHeartbeats 2000000
set_option linter.unusedVariables false
namespace Mine

section
variable {prog : Program} {w : World} {A : Around} {E : Value → Shared → Prop} {s : Shared} {env : Env} {h₀ : Heap} {body : List Stmt} {Q : Flow → Shared → Prop} {x : Str} {m : Str → Option Value} {l : Addr} {o : Obj} {rest : List (Addr × Obj)}

theorem TurnEnd.post {J : Nat → (Str → Option Value) → List (Addr × Obj) → Prop} {own : List (Addr × Obj)} {s₁ : Shared} {f : Flow} {s₂ : Shared} {P : Obj → Prop} {M : (Str → Option Value) → Prop} {i : Nat} {adr : List Addr}
    (h : TurnEnd h₀ env.locals l (rest ++ own) P M s₁ f s₂) (hadr : adr = l :: rest.map (·.1)) (hJ : ∀ m' o', M m' → P o' → J i m' ((l, o') :: rest)) :
    InvPostN h₀ env.locals (J i) own adr s₁ Q f s₂ := by
  obtain ⟨rfl, h', tk, m', o', rfl, F', hM, N', hP⟩ := h
  refine ⟨h', tk, m', _, (l, o') :: rest, rfl, F', N', ?_, ?_, hadr.symm ▸ rfl, hJ m' o' hM hP⟩
  · intro p hp
    rcases List.mem_cons.mp hp with rfl | hp
    · exact .head _
    · exact .tail _ (List.mem_append_left _ hp)
  · exact fun p hp => .tail _ (List.mem_append_right _ hp)

theorem ownOff_cons {own : List (Addr × Obj)} (h : OwnOff own (((l, o) :: rest).map (·.1))) (hoff : ∀ p ∈ rest, p.1 ≠ l) : ∀ p ∈ rest ++ own, p.1 ≠ l := by
  intro p hp
  rcases List.mem_append.mp hp with hp | hp
  · exact hoff p hp
  · exact h p hp l (.head _)

/-- the frame's map, but for the names in ns -/
def But (ns : List Str) (m m' : Str → Option Value) : Prop := ∀ z, z ∉ ns → m' z = m z

/-- a loop over a text's signs that changes one object -/
theorem str_obj {xt : Str} {tx : Tok} (ns : List Str) (hh : A.handled = none) (F : Fr h₀ env.locals s.heap m) (N : News h₀ env.locals s.heap ((l, o) :: rest)) (hoff : ∀ p ∈ rest, p.1 ≠ l)
    (P : Nat → Obj → Prop) (h0 : P 0 o)
    (turn : ∀ i c t m₁ h tk o₁ rest₁, xt.cps[i]? = some c → P i o₁ → (∀ p ∈ rest₁, p.1 ≠ l) → But ns m m₁ →
      Fr h₀ env.locals h (fun z => if z = x then some (.str ⟨#[c]⟩ t) else m₁ z) → News h₀ env.locals h ((l, o₁) :: rest₁) →
      wpAny (model prog w) A (execs body env) (TurnEnd h₀ env.locals l rest₁ (P (i + 1)) (But ns m) { s with heap := h, toks := tk }) E { s with heap := h, toks := tk })
    (fin : ∀ h tk o₁ m₁, P xt.cps.size o₁ → But ns m m₁ → Fr h₀ env.locals h m₁ → News h₀ env.locals h ((l, o₁) :: rest) → Q .next { s with heap := h, toks := tk }) :
    wpAny (model prog w) A (pyIter (.str xt tx)) (fun it s₂ => LoopAtV prog w A h₀ env x body Q E it s₂) E s := by
  refine wpAny_pyIter_str fun ob St hW hst => ?_
  have W := hW A hh
  refine loop_invN (fun i m₁ nx => But ns m m₁ ∧ ∃ o₁, nx = (l, o₁) :: rest ∧ P i o₁) W ?_ ?_ ?_ ?_ hst (F.push _) (fun p hp => ⟨Heap.get?_push_of_some _ (N p hp).1, (N p hp).2⟩) ⟨fun _ _ => rfl, o, rfl, h0⟩ ?_ ?_
  · intro hm
    exact absurd F.ns.lt ((List.mem_singleton.mp hm) ▸ Nat.lt_irrefl _)
  · intro b' hb
    rw [List.mem_singleton.mp hb]
    exact next_is_new F
  · intro p hp hI
    exact absurd (Heap.lt_size (N p hp).1) ((List.mem_singleton.mp hI) ▸ Nat.lt_irrefl _)
  · intro p hp hI
    exact absurd (Heap.lt_size (N p hp).1) ((List.mem_singleton.mp hI) ▸ Nat.lt_irrefl _)
  · rintro i v m₁ nx h tk own hi ⟨c, u, hn, rfl⟩ _ hown ⟨hB, o₁, rfl, hP⟩ F₁ N₁
    refine wpAny_mono (turn i c u m₁ h tk o₁ (rest ++ own) hn hP (ownOff_cons hown hoff) hB F₁ N₁) (fun f s₃ h₃ => ?_) fun _ _ e => e
    exact TurnEnd.post (J := fun i m₁ nx => But ns m m₁ ∧ ∃ o₁, nx = (l, o₁) :: rest ∧ P i o₁) h₃ rfl (fun m' o' hM hP => ⟨hM, o', rfl, hP⟩)
  · rintro m₁ nx h tk ⟨hB, o₁, rfl, hP⟩ F₁ N₁
    exact fin h tk o₁ m₁ hP hB F₁ N₁

/-- a loop over a made list of texts that changes one other object -/
theorem list_obj {a : Addr} {vs : List Value} {ss : List Str} {n : Nat} (ns : List Str) (hh : A.handled = none) (hS : StrsAre vs ss) (F : Fr h₀ env.locals s.heap m) (N : News h₀ env.locals s.heap ((a, W.listOf vs.toArray n) :: (l, o) :: rest))
    (hoff : ∀ p ∈ rest, p.1 ≠ l) (ha : ∀ p ∈ (l, o) :: rest, p.1 < a)
    (P : Nat → Obj → Prop) (h0 : P 0 o)
    (turn : ∀ i r t m₁ h tk o₁ rest₁, ss[i]? = some r → P i o₁ → (∀ p ∈ rest₁, p.1 ≠ l) → But ns m m₁ →
      Fr h₀ env.locals h (fun z => if z = x then some (.str r t) else m₁ z) → News h₀ env.locals h ((l, o₁) :: rest₁) →
      wpAny (model prog w) A (execs body env) (TurnEnd h₀ env.locals l rest₁ (P (i + 1)) (But ns m) { s with heap := h, toks := tk }) E { s with heap := h, toks := tk })
    (fin : ∀ h tk o₁ m₁, P ss.length o₁ → But ns m m₁ → Fr h₀ env.locals h m₁ → News h₀ env.locals h ((l, o₁) :: rest) → Q .next { s with heap := h, toks := tk }) :
    wpAny (model prog w) A (pyIter (.ref a)) (fun it s₂ => LoopAtV prog w A h₀ env x body Q E it s₂) E s := by
  have z := N _ (.head _)
  have hl : s.heap.IsList a vs.toArray := PySem.IsL.isList (n := n) z.1
  have hlt : a < s.heap.objs.size := Heap.lt_size z.1
  refine wpAny_pyIter_list hl ?_
  have W := Walks.list (prog := prog) (w := w) hh s.heap.objs.size a (Nat.ne_of_lt hlt) vs.toArray
  have hlen : vs.toArray.size = ss.length := by simp [hS.length]
  rw [hlen] at W
  have N' : News h₀ env.locals s.heap ((l, o) :: rest) := fun p hp => N p (.tail _ hp)
  refine loop_invN (fun i m₁ nx => But ns m m₁ ∧ ∃ o₁, nx = (l, o₁) :: rest ∧ P i o₁) W ?_ ?_ ?_ ?_ ⟨⟨_, Heap.get?_push_size _ rfl, rfl, rfl⟩, hl.at fun o e => Heap.get?_push_of_some _ e⟩ (F.push _) (fun p hp => ⟨Heap.get?_push_of_some _ (N' p hp).1, (N' p hp).2⟩) ⟨fun _ _ => rfl, o, rfl, h0⟩ ?_ ?_
  · intro hm
    rcases List.mem_cons.mp hm with e | hm
    · exact absurd F.ns.lt (e ▸ Nat.lt_irrefl _)
    · exact z.2.1 (List.mem_singleton.mp hm).symm
  · intro b' hb
    rw [List.mem_singleton.mp hb]
    exact next_is_new F
  · intro p hp hI
    exact absurd (Heap.lt_size (N' p hp).1) ((List.mem_singleton.mp hI) ▸ Nat.lt_irrefl _)
  · intro p hp hI
    rcases List.mem_cons.mp hI with e | hI
    · exact absurd (Heap.lt_size (N' p hp).1) (e ▸ Nat.lt_irrefl _)
    · exact absurd (ha p hp) ((List.mem_singleton.mp hI) ▸ Nat.lt_irrefl _)
  · rintro i v m₁ nx h tk own hi hv _ hown ⟨hB, o₁, rfl, hP⟩ F₁ N₁
    have hv' : vs[i]? = some v := by simpa using hv
    obtain ⟨r, t, rfl, hr⟩ := hS.item i v hv'
    refine wpAny_mono (turn i r t m₁ h tk o₁ (rest ++ own) hr hP (ownOff_cons hown hoff) hB F₁ N₁) (fun f s₃ h₃ => ?_) fun _ _ e => e
    exact TurnEnd.post (J := fun i m₁ nx => But ns m m₁ ∧ ∃ o₁, nx = (l, o₁) :: rest ∧ P i o₁) h₃ rfl (fun m' o' hM hP => ⟨hM, o', rfl, hP⟩)
  · rintro m₁ nx h tk ⟨hB, o₁, rfl, hP⟩ F₁ N₁
    exact fin h tk o₁ m₁ hP hB F₁ N₁
end
end Mine
end

section
open PySem PySem.W PyProof.Rows PySem.Calls
set_option Elab.async false
set_option maxRecDepth 100000
set_option maxHeartbeats 2000000
set_option linter.unusedVariables false
namespace Mine
theorem range_pick (l : List Nat) (a : Nat) : ∀ k, ((List.range k).map (a + ·)).filterMap (l[·]?) = (l.drop a).take k := by
  intro k
  induction k with
  | zero => simp
  | succ k ih =>
    rw [List.range_succ, List.map_append, List.filterMap_append, ih, List.take_add_one]
    congr 1
    rw [List.getElem?_drop]
    simp only [List.map_cons, List.map_nil, List.filterMap_cons, List.filterMap_nil]
    cases l[a + k]? <;> rfl
theorem sliceRange_nat (a b : Nat) (h : a ≤ b) : sliceRange (a : Int) (b : Int) 1 = (List.range (b - a)).map (a + ·) := by
  unfold sliceRange
  rw [if_pos (by decide)]
  have e : (if (a : Int) < b then ((b : Int) - a + 1 - 1) / 1 else 0).toNat = b - a := by
    split
    · rw [Int.ediv_one]; omega
    · omega
  dsimp only
  rw [e]
  refine List.map_congr_left fun k _ => ?_
  omega
theorem slice_run (x : Str) (l u : Option Int) (a b : Nat) (h : Builtin.Str.strSliceIndices l u 1 x.length = (List.range (b - a)).map (a + ·)) (hab : a ≤ b) (hb : b ≤ x.length) : (Txt.slice x l u).cps.toList = (x.cps.toList.drop a).take (b - a) := by
  unfold Txt.slice
  rw [h]
  split
  · rename_i hc
    have hc : b - a = x.length := by simpa using hc
    have hl := str_len x
    have : a = 0 := by omega
    subst this
    rw [List.drop_zero, List.take_of_length_le (by omega)]
  · show (List.filterMap (x.cps[·]?) ((List.range (b - a)).map (a + ·))) = _
    rw [← range_pick]
    congr 1
    funext i
    simp
theorem slice_one (r : Str) : (Txt.slice r none (some 1)).cps.toList = r.cps.toList.take 1 := by
  rw [slice_run r none (some 1) 0 (min 1 r.length) ?_ (Nat.zero_le _) (Nat.min_le_right _ _)]
  · rw [str_len]
    cases r.cps.toList <;> simp
  · rw [← sliceRange_nat _ _ (Nat.zero_le _)]
    unfold Builtin.Str.strSliceIndices
    simp only [show (1 : Int) > 0 by decide, if_true, show ¬ (1 : Int) < 0 by decide, if_false]
    congr 1
    omega
theorem slice_tail (r : Str) : (Txt.slice r (some 1) none).cps.toList = r.cps.toList.drop 1 := by
  rw [slice_run r (some 1) none (min 1 r.length) r.length ?_ (Nat.min_le_right _ _) (Nat.le_refl _)]
  · rw [str_len]
    cases h : r.cps.toList with
    | nil => rfl
    | cons c t =>
      simp
  · rw [← sliceRange_nat _ _ (Nat.min_le_right _ _)]
    unfold Builtin.Str.strSliceIndices
    simp only [show (1 : Int) > 0 by decide, if_true, show ¬ (1 : Int) < 0 by decide, if_false]
    congr 1
    omega
end Mine
end

section
open PySem PySem.W PyProof.Rows PySem.Calls
set_option Elab.async false
set_option maxRecDepth 100000
set_option maxHeartbeats 2000000
set_option linter.unusedVariables false
namespace Mine

def EscOk (e : Int) : Prop := 0 ≤ e ∧ e ≤ 4
def SndOk (e : Int) : Prop := 0 ≤ e ∧ e ≤ 4
def LastOk (b : Int) : Prop := b = 0 ∨ b = 1

theorem But.map2 {x y : Str} {m m' : Str → Option Value} (h : But [x, y] m m') : m' = fun z => if z = x then m' x else if z = y then m' y else m z := by
  funext z
  by_cases h1 : z = x
  · subst h1; simp
  · by_cases h2 : z = y
    · subst h2; simp [h1]
    · simp [h1, h2, h z (by simp [h1, h2])]
theorem But.map4 {x y a b : Str} {m m' : Str → Option Value} (h : But [x, y, a, b] m m') : m' = fun z => if z = x then m' x else if z = y then m' y else if z = a then m' a else if z = b then m' b else m z := by
  funext z
  by_cases h1 : z = x
  · subst h1; simp
  · by_cases h2 : z = y
    · subst h2; simp [h1]
    · by_cases h3 : z = a
      · subst h3; simp [h1, h2]
      · by_cases h4 : z = b
        · subst h4; simp [h1, h2, h3]
        · simp [h1, h2, h3, h4, h z (by simp [h1, h2, h3, h4])]
theorem if_if {x : Str} {u : Option Value} {v : Option Value} {m : Str → Option Value} : (fun z => if z = x then v else (fun z => if z = x then u else m z) z) = fun z => if z = x then v else m z := by
  funext z
  by_cases h : z = x <;> simp [h]

/-- the list of a row's told signs when i are taken -/
def signsP (e : Int) (r : Str) (i : Nat) (o : Obj) : Prop := ∃ us n R, o = W.listOf us.toArray n ∧ StrsAre us R ∧ R.map (·.cps.toList) = (r.cps.toList.take i).map (signTold e.toNat)
/-- the list of the told rows when i are taken -/
def toldP (e k : Int) (rs : List Str) (i : Nat) (o : Obj) : Prop := ∃ us n R, o = W.listOf us.toArray n ∧ StrsAre us R ∧ R.map (·.cps.toList) = (rs.take i).map (fun r => rowTold e.toNat k.toNat r.cps.toList)

section
variable {prog : Program} {w : World} {A : Around} {E : Value → Shared → Prop} {s : Shared} {env : Env} {h₀ : Heap} {body : List Stmt} {Q : Flow → Shared → Prop} {m : Str → Option Value} {l : Addr} {rest : List (Addr × Obj)} {e k : Int}

abbrev nSign : Str := Str.ofString "sign"
abbrev nLess : Str := Str.ofString "less"
abbrev nRow : Str := Str.ofString "row"
abbrev nSigns : Str := Str.ofString "signs"

theorem sign_loop {r : Str} {tr : Tok} {n : Nat} (he : EscOk e) (hh : A.handled = none) (F : Fr h₀ env.locals s.heap m) (N : News h₀ env.locals s.heap ((l, W.listOf #[] n) :: rest)) (hoff : ∀ p ∈ rest, p.1 ≠ l) (hr : r.length ≤ 2 ^ 6)
    (turn : ∀ (i c : Nat) (t : Tok) (u : Option Value) (h : Heap) (tk : Nat) (us : List Value) (n : Nat) (R : List Str) (rest₁ : List (Addr × Obj)), r.cps[i]? = some c → StrsAre us R → R.map (·.cps.toList) = (r.cps.toList.take i).map (signTold e.toNat) → us.length ≤ 2 ^ 6 → (∀ p ∈ rest₁, p.1 ≠ l) →
      Fr h₀ env.locals h (fun z => if z = Str.ofString "sign" then some (.str ⟨#[c]⟩ t) else if z = Str.ofString "less" then u else m z) → News h₀ env.locals h ((l, W.listOf us.toArray n) :: rest₁) →
      wpAny (model prog w) A (execs body env) (TurnEnd h₀ env.locals l rest₁ (signsP e r (i + 1)) (But [Str.ofString "sign", Str.ofString "less"] m) { s with heap := h, toks := tk }) E { s with heap := h, toks := tk })
    (fin : ∀ (h : Heap) (tk : Nat) (us : List Value) (n : Nat) (R : List Str) (u1 u2 : Option Value), StrsAre us R → R.map (·.cps.toList) = r.cps.toList.map (signTold e.toNat) → Fr h₀ env.locals h (fun z => if z = Str.ofString "sign" then u1 else if z = Str.ofString "less" then u2 else m z) → News h₀ env.locals h ((l, W.listOf us.toArray n) :: rest) → Q .next { s with heap := h, toks := tk }) :
    wpAny (model prog w) A (pyIter (.str r tr)) (fun it s₂ => LoopAtV prog w A h₀ env (Str.ofString "sign") body Q E it s₂) E s := by
  refine str_obj [Str.ofString "sign", Str.ofString "less"] hh F N hoff (signsP e r) ⟨[], n, [], rfl, .nil, by simp⟩ ?_ ?_
  · rintro i c t m₁ h tk o₁ rest₁ hc ⟨us, n, R, rfl, hS, hR⟩ ho hB F₁ N₁
    have hi : i < r.cps.size := (Array.getElem?_eq_some_iff.mp hc).1
    have hr' : r.cps.size ≤ 2 ^ 6 := hr
    have hl : us.length ≤ 2 ^ 6 := by
      have h1 := hS.length
      have h2 := congrArg List.length hR
      simp at h2
      omega
    rw [hB.map2, if_if] at F₁
    exact turn i c t _ h tk us n R rest₁ hc hS hR hl ho F₁ N₁
  · rintro h tk o₁ m₁ ⟨us, n, R, rfl, hS, hR⟩ hB F₁ N₁
    rw [hB.map2] at F₁
    refine fin h tk us n R _ _ hS ?_ F₁ N₁
    rw [hR, List.take_of_length_le (by simp)]

theorem row_loop {a : Addr} {vs : List Value} {ss : List Str} {n n0 : Nat} (he : EscOk e) (hk : SndOk k) (hh : A.handled = none) (hS : StrsAre vs ss) (hlen : ss.length ≤ 2 ^ 7) (hlen2 : ∀ r ∈ ss, r.length ≤ 2 ^ 6) (F : Fr h₀ env.locals s.heap m) (N : News h₀ env.locals s.heap ((a, W.listOf vs.toArray n) :: (l, W.listOf #[] n0) :: rest))
    (hoff : ∀ p ∈ rest, p.1 ≠ l) (ha : ∀ p ∈ (l, W.listOf #[] n0) :: rest, p.1 < a)
    (turn : ∀ (i : Nat) (r : Str) (t : Tok) (u1 u2 u3 : Option Value) (h : Heap) (tk : Nat) (us : List Value) (n : Nat) (R : List Str) (rest₁ : List (Addr × Obj)), ss[i]? = some r → r.length ≤ 2 ^ 6 → StrsAre us R → R.map (·.cps.toList) = (ss.take i).map (fun r => rowTold e.toNat k.toNat r.cps.toList) → us.length ≤ 2 ^ 7 → (∀ p ∈ rest₁, p.1 ≠ l) →
      Fr h₀ env.locals h (fun z => if z = Str.ofString "row" then some (.str r t) else if z = Str.ofString "signs" then u1 else if z = Str.ofString "sign" then u2 else if z = Str.ofString "less" then u3 else m z) → News h₀ env.locals h ((l, W.listOf us.toArray n) :: rest₁) →
      wpAny (model prog w) A (execs body env) (TurnEnd h₀ env.locals l rest₁ (toldP e k ss (i + 1)) (But [Str.ofString "row", Str.ofString "signs", Str.ofString "sign", Str.ofString "less"] m) { s with heap := h, toks := tk }) E { s with heap := h, toks := tk })
    (fin : ∀ (h : Heap) (tk : Nat) (us : List Value) (n : Nat) (R : List Str) (u u1 u2 u3 : Option Value), StrsAre us R → R.map (·.cps.toList) = ss.map (fun r => rowTold e.toNat k.toNat r.cps.toList) → Fr h₀ env.locals h (fun z => if z = Str.ofString "row" then u else if z = Str.ofString "signs" then u1 else if z = Str.ofString "sign" then u2 else if z = Str.ofString "less" then u3 else m z) → News h₀ env.locals h ((l, W.listOf us.toArray n) :: rest) → Q .next { s with heap := h, toks := tk }) :
    wpAny (model prog w) A (pyIter (.ref a)) (fun it s₂ => LoopAtV prog w A h₀ env (Str.ofString "row") body Q E it s₂) E s := by
  refine list_obj [Str.ofString "row", Str.ofString "signs", Str.ofString "sign", Str.ofString "less"] hh hS F N hoff ha (toldP e k ss) ⟨[], n0, [], rfl, .nil, by simp⟩ ?_ ?_
  · rintro i r t m₁ h tk o₁ rest₁ hc ⟨us, n, R, rfl, hS, hR⟩ ho hB F₁ N₁
    have hl : us.length ≤ 2 ^ 7 := by
      have h1 := hS.length
      have h2 := congrArg List.length hR
      simp at h2
      omega
    rw [hB.map4, if_if] at F₁
    exact turn i r t _ _ _ h tk us n R rest₁ hc (hlen2 r (List.mem_of_getElem? hc)) hS hR hl ho F₁ N₁
  · rintro h tk o₁ m₁ ⟨us, n, R, rfl, hS, hR⟩ hB F₁ N₁
    rw [hB.map4] at F₁
    refine fin h tk us n R _ _ _ _ hS ?_ F₁ N₁
    rw [hR, List.take_of_length_le (Nat.le_refl _)]
end

theorem consHead_len (c : Nat) (R : List (List Nat)) : (consHead c R).length ≤ R.length + 1 := by cases R <;> simp [consHead]
theorem rowsF_len : ∀ (l : List Nat) (a : Nat), (rowsF a l).length ≤ l.length + 1
  | [], _ => by simp [rowsF]
  | c :: t, a => by
    have ih := rowsF_len t c
    rw [rowsF]
    split
    · simp; exact ih
    · split
      · simp; omega
      · cases h : rowsF c t with
        | nil => simp [consHead]
        | cons y ys => rw [h] at ih; simp [consHead] at ih ⊢; omega
theorem rowsF_row_len : ∀ (l : List Nat) (a : Nat), ∀ r ∈ rowsF a l, r.length ≤ l.length
  | [], _, r, hr => by simp [rowsF] at hr; subst hr; simp
  | c :: t, a, r, hr => by
    have ih := rowsF_row_len t c
    rw [rowsF] at hr
    split at hr
    · rcases List.mem_cons.mp hr with rfl | hr
      · simp
      · have := ih r hr; simp; omega
    · split at hr
      · have := ih r hr; simp; omega
      · rcases consHead_mem hr with ⟨r', rfl, hr' | rfl⟩ | hr
        · have := ih r' hr'; simp; omega
        · simp
        · have := ih r hr; simp; omega
theorem rows_short {x : Str} {ss : List Str} (hx : x.length ≤ 2 ^ 6) (h : ss.map (·.cps.toList) = rowsF 32 x.cps.toList) : ss.length ≤ 2 ^ 7 ∧ ∀ r ∈ ss, r.length ≤ 2 ^ 6 := by
  have hx' : x.cps.toList.length ≤ 2 ^ 6 := by rw [← str_len]; exact hx
  constructor
  · have h1 := congrArg List.length h
    have h2 := rowsF_len x.cps.toList 32
    simp only [List.length_map] at h1
    omega
  · intro r hr
    have : r.cps.toList ∈ rowsF 32 x.cps.toList := h ▸ List.mem_map.mpr ⟨r, hr, rfl⟩
    have := rowsF_row_len _ _ _ this
    rw [str_len]; omega
end Mine
end

section
open PySem PySem.W PyProof.Rows PySem.Calls
set_option Elab.async false
set_option maxRecDepth 100000
set_option maxHeartbeats 2000000
set_option linter.unusedVariables false
namespace Mine

theorem foldl_app (l : List (Array Nat)) (a : Array Nat) : (l.foldl (· ++ ·) a).toList = a.toList ++ (l.map (·.toList)).flatten := by
  induction l generalizing a with
  | nil => simp
  | cons x xs ih => simp [ih]
theorem mul_list (x : Str) (n : Int) (h : 0 ≤ n) : (Txt.mul x n).cps.toList = (List.replicate n.toNat x.cps.toList).flatten := by
  unfold Txt.mul
  split
  · have : n = 0 := by omega
    subst this; rfl
  · split
    · rename_i h1 h2
      simp only [Bool.or_eq_true, beq_iff_eq] at h2
      rcases h2 with rfl | h2
      · simp
      · have e : x.cps.toList = [] := by
          have : x.cps.toList.length = 0 := by rw [← str_len]; exact h2
          simpa using this
        rw [e]
        have : ∀ k, (List.replicate k ([] : List Nat)).flatten = [] := by intro k; induction k <;> simp_all [List.replicate_succ]
        rw [this]
    · rw [foldl_app]
      simp
theorem mul_amp (n : Int) (h : 0 ≤ n) : (Txt.mul (Str.ofString "amp;") n).cps.toList = amps n.toNat := by
  rw [mul_list _ _ h]
  have : (Str.ofString "amp;").cps.toList = [97, 109, 112, 59] := by decide +kernel
  rw [this]; rfl
theorem mul_dot (n : Int) (h : 0 ≤ n) : (Txt.mul (Str.ofString ".") n).cps.toList = List.replicate n.toNat 46 := by
  rw [mul_list _ _ h]
  have : (Str.ofString ".").cps.toList = [46] := by decide +kernel
  rw [this]
  induction n.toNat with
  | zero => rfl
  | succ k ih => simp [List.replicate_succ, ih]

theorem app_list (a b : Str) : (a ++ b).cps.toList = a.cps.toList ++ b.cps.toList := by rw [Str.cps_append, Array.toList_append]

theorem one_eq {c : Nat} {y : Str} {d : Nat} (hy : y = ⟨#[d]⟩) : ((⟨#[c]⟩ : Str) == y) = decide (c = d) := by
  subst hy
  by_cases h : c = d
  · subst h; rw [beq_self_eq_true, decide_eq_true rfl]
  · rw [decide_eq_false h]
    exact beq_eq_false_iff_ne.mpr fun q => h (by injection q with q; injection q with q; injection q)
theorem is_amp (c : Nat) : ((⟨#[c]⟩ : Str) == Str.ofString "&") = decide (c = 38) := one_eq (by decide +kernel)
theorem is_less (c : Nat) : ((⟨#[c]⟩ : Str) == Str.ofString "<") = decide (c = 60) := one_eq (by decide +kernel)

section
variable {e : Int} {c : Nat}
theorem sign_amp (he : 0 ≤ e) (h1 : ((⟨#[c]⟩ : Str) == Str.ofString "&") = true) : (Str.ofString "&" ++ Txt.mul (Str.ofString "amp;") e).cps.toList = signTold e.toNat c := by
  rw [is_amp] at h1
  have hc : c = 38 := by simpa using h1
  subst hc
  have : (Str.ofString "&").cps.toList = [38] := by decide +kernel
  rw [app_list, mul_amp e he, this]; rfl
theorem sign_less0 (he : e = 0) (h2 : ((⟨#[c]⟩ : Str) == Str.ofString "<") = true) : (Str.ofString "<").cps.toList = signTold e.toNat c := by
  rw [is_less] at h2
  have hc : c = 60 := by simpa using h2
  subst hc; subst he
  decide +kernel
theorem sign_less (he : 0 ≤ e) (hne : e ≠ 0) (h2 : ((⟨#[c]⟩ : Str) == Str.ofString "<") = true) : (Str.ofString "&" ++ Txt.mul (Str.ofString "amp;") (e - 1) ++ Str.ofString "lt;").cps.toList = signTold e.toNat c := by
  rw [is_less] at h2
  have hc : c = 60 := by simpa using h2
  subst hc
  have h38 : (Str.ofString "&").cps.toList = [38] := by decide +kernel
  have hlt : (Str.ofString "lt;").cps.toList = [108, 116, 59] := by decide +kernel
  rw [app_list, app_list, mul_amp (e - 1) (by omega), h38, hlt]
  have e1 : (e - 1).toNat = e.toNat - 1 := by omega
  rw [e1]
  unfold signTold
  rw [if_neg (by decide), if_pos rfl, if_neg (by omega)]
  simp
theorem sign_other (h1 : ((⟨#[c]⟩ : Str) == Str.ofString "&") = false) (h2 : ((⟨#[c]⟩ : Str) == Str.ofString "<") = false) : (⟨#[c]⟩ : Str).cps.toList = signTold e.toNat c := by
  rw [is_amp] at h1
  rw [is_less] at h2
  have h1 : c ≠ 38 := by simpa using h1
  have h2 : c ≠ 60 := by simpa using h2
  unfold signTold
  rw [if_neg h1, if_neg h2]
end

theorem signs_more {e : Int} {r v : Str} {i c n : Nat} {us : List Value} {R : List Str} {t : Tok} (hv : v.cps.toList = signTold e.toNat c) (hc : r.cps[i]? = some c) (hS : StrsAre us R) (hR : R.map (·.cps.toList) = (r.cps.toList.take i).map (signTold e.toNat)) :
    signsP e r (i + 1) (W.listOf (us ++ [Value.str v t]).toArray n) := by
  refine ⟨_, _, R ++ [v], rfl, StrsAre.append' hS (.cons _ _ .nil), ?_⟩
  have : r.cps.toList[i]? = some c := by simpa using hc
  rw [List.map_append, hR, List.take_add_one, this, List.map_append]
  simp [hv]
theorem told_more {e k : Int} {r v : Str} {i n : Nat} {ss : List Str} {us : List Value} {R : List Str} {t : Tok} (hv : v.cps.toList = rowTold e.toNat k.toNat r.cps.toList) (hc : ss[i]? = some r) (hS : StrsAre us R) (hR : R.map (·.cps.toList) = (ss.take i).map (fun r => rowTold e.toNat k.toNat r.cps.toList)) :
    toldP e k ss (i + 1) (W.listOf (us ++ [Value.str v t]).toArray n) := by
  refine ⟨_, _, R ++ [v], rfl, StrsAre.append' hS (.cons _ _ .nil), ?_⟩
  rw [List.map_append, hR, List.take_add_one, hc, List.map_append]
  simp [hv]

theorem slice_head (r : Str) : (Txt.slice r none (some 1) == Str.ofString ".") = decide (r.cps.toList.head? = some 46) := by
  have e46 : Str.ofString "." = ⟨#[46]⟩ := by decide +kernel
  have e : (Txt.slice r none (some 1)).cps.toList = r.cps.toList.take 1 := slice_one r
  rw [e46]
  by_cases h : r.cps.toList.head? = some 46
  · rw [decide_eq_true h]
    have : Txt.slice r none (some 1) = ⟨#[46]⟩ := by
      refine str_ext ?_
      rw [e]
      cases hl : r.cps.toList with
      | nil => rw [hl] at h; cases h
      | cons c t => rw [hl] at h; simp at h; subst h; rfl
    rw [this, beq_self_eq_true]
  · rw [decide_eq_false h]
    refine beq_eq_false_iff_ne.mpr fun q => h ?_
    rw [q] at e
    cases hl : r.cps.toList with
    | nil => rw [hl] at e; cases e
    | cons c t => rw [hl] at e; simp at e; simp [e]

theorem row_dot {e k : Int} {r : Str} (hk : 0 ≤ k) (h : (Txt.slice r none (some 1) == Str.ofString ".") = true) : (Txt.mul (Str.ofString ".") k ++ ofL (r.cps.toList.flatMap (signTold e.toNat))).cps.toList = rowTold e.toNat k.toNat r.cps.toList := by
  rw [slice_head] at h
  have h : r.cps.toList.head? = some 46 := by simpa using h
  rw [app_list, ofL_list, mul_dot k hk]
  unfold rowTold
  rw [if_pos h]
theorem row_plain {e k : Int} {r : Str} (h : (Txt.slice r none (some 1) == Str.ofString ".") = false) : (Str.ofString "" ++ ofL (r.cps.toList.flatMap (signTold e.toNat))).cps.toList = rowTold e.toNat k.toNat r.cps.toList := by
  rw [slice_head] at h
  have h : ¬ r.cps.toList.head? = some 46 := by simpa using h
  have e0 : (Str.ofString "").cps.toList = [] := by decide +kernel
  rw [app_list, ofL_list, e0]
  unfold rowTold
  rw [if_neg h]

theorem amps_len (n : Nat) : (amps n).length = 4 * n := by
  induction n with
  | zero => rfl
  | succ n ih => rw [amps_succ, List.length_append, ih]; simp; omega
theorem signTold_len (e c : Nat) (h : e ≤ 4) : (signTold e c).length ≤ 17 := by
  unfold signTold
  split
  · simp [amps_len]; omega
  · split
    · split
      · simp
      · simp [amps_len]; omega
    · simp
theorem flatTold_len (e : Nat) (h : e ≤ 4) (l : List Nat) : (l.flatMap (signTold e)).length ≤ 17 * l.length := by
  induction l with
  | nil => simp
  | cons c t ih => rw [List.flatMap_cons, List.length_append, List.length_cons]; have := signTold_len e c h; omega
theorem sum_le (b : Nat) : ∀ l : List (List Nat), (∀ x ∈ l, x.length ≤ b) → (l.map List.length).sum ≤ b * l.length
  | [], _ => by simp
  | x :: xs, h => by
    have ih := sum_le b xs (fun y hy => h y (by simp [hy]))
    have := h x (by simp)
    simp only [List.map_cons, List.sum_cons, List.length_cons, Nat.mul_succ]
    omega
theorem lens_eq (R : List Str) : R.map (·.length) = (R.map (·.cps.toList)).map List.length := by
  rw [List.map_map]
  exact List.map_congr_left fun x _ => str_len x
theorem rowTold_len (e s : Nat) (h : e ≤ 4) (hs : s ≤ 4) (r : List Nat) (hr : r.length ≤ 2 ^ 6) : (rowTold e s r).length ≤ 2048 := by
  unfold rowTold
  have := flatTold_len e h r
  rw [List.length_append]
  have : (if r.head? = some 46 then List.replicate s 46 else []).length ≤ 4 := by split <;> simp <;> omega
  omega

section
variable {prog : Program} {w : World} {A : Around} {E : Value → Shared → Prop} {s : Shared} {h₀ : Heap} {L l : Addr} {rest : List (Addr × Obj)} {Q : Value → Shared → Prop} {us : List Value} {n : Nat} {R : List Str} {e k b : Int} {t : Tok}

theorem join_signs {r : Str} (he : EscOk e) (hr : r.length ≤ 2 ^ 6) (N : News h₀ L s.heap ((l, W.listOf us.toArray n) :: rest)) (hS : StrsAre us R) (hR : R.map (·.cps.toList) = r.cps.toList.map (signTold e.toNat))
    (h : ∀ t' k, (ofL (r.cps.toList.flatMap (signTold e.toNat))).length ≤ 2048 → Q (.str (ofL (r.cps.toList.flatMap (signTold e.toNat))) t') { s with toks := k }) :
    wpAny (model prog w) A (call (.builtin "str.join") [.str (Str.ofString "") t, .ref l]) Q E s := by
  have hl : s.heap.IsList l us.toArray := PySem.IsL.isList (n := n) (N _ (.head _)).1
  have he4 : e.toNat ≤ 4 := by have := he.2; omega
  have hr' : r.cps.toList.length ≤ 2 ^ 6 := by rw [← str_len]; exact hr
  have e0 : (Str.ofString "").cps.toList = [] := by decide +kernel
  have hlen : R.length = r.cps.toList.length := by have := congrArg List.length hR; simpa using this
  have hj : Txt.join (Str.ofString "") R = ofL (r.cps.toList.flatMap (signTold e.toNat)) := by
    refine str_ext ?_
    rw [join_toList, e0, joinL_nil, hR, ofL_list]; rfl
  refine join_list hl (by simpa using hS) ?_ fun t' k => ?_
  · have : (Str.ofString "").length = 0 := by decide +kernel
    rw [this, lens_eq, hR]
    have := sum_le 17 (r.cps.toList.map (signTold e.toNat)) (by
      intro x hx
      obtain ⟨c, _, rfl⟩ := List.mem_map.mp hx
      exact signTold_len _ _ he4)
    rw [List.length_map] at this
    omega
  · rw [hj]
    refine h t' k ?_
    rw [ofL_len]
    have := flatTold_len e.toNat he4 r.cps.toList
    omega

theorem join_told {x : Str} {ss : List Str} {p : Addr × Obj} {sep : Str} (he : EscOk e) (hk : SndOk k) (hx : ss.map (·.cps.toList) = rowsF 32 x.cps.toList) (hlen : ss.length ≤ 2 ^ 7) (hlen2 : ∀ r ∈ ss, r.length ≤ 2 ^ 6) (N : News h₀ L s.heap (p :: (l, W.listOf us.toArray n) :: rest)) (hS : StrsAre us R)
    (hR : R.map (·.cps.toList) = ss.map (fun r => rowTold e.toNat k.toNat r.cps.toList)) (hsep : sep.cps.toList = sepOf b)
    (h : ∀ t' tk, Q (.str (ofL (toldL x.cps.toList e.toNat k.toNat b)) t') { s with toks := tk }) :
    wpAny (model prog w) A (call (.builtin "str.join") [.str sep t, .ref l]) Q E s := by
  have hl : s.heap.IsList l us.toArray := PySem.IsL.isList (n := n) (N (l, W.listOf us.toArray n) (.tail _ (.head _))).1
  have he4 : e.toNat ≤ 4 := by have := he.2; omega
  have hk4 : k.toNat ≤ 4 := by have := hk.2; omega
  have hn : R.length = ss.length := by have := congrArg List.length hR; simpa using this
  have hj : Txt.join sep R = ofL (toldL x.cps.toList e.toNat k.toNat b) := by
    refine str_ext ?_
    rw [join_toList, hsep, hR, ofL_list]
    unfold toldL
    rw [← hx, List.map_map]; rfl
  refine join_list hl (by simpa using hS) ?_ fun t' k => ?_
  · have h2 : sep.length ≤ 2 := by
      rw [str_len, hsep]; unfold sepOf; split <;> decide
    rw [lens_eq, hR]
    have := sum_le 2048 (ss.map (fun r => rowTold e.toNat k.toNat r.cps.toList)) (by
      intro x hx
      obtain ⟨r, hr, rfl⟩ := List.mem_map.mp hx
      refine rowTold_len _ _ he4 hk4 _ ?_
      rw [← str_len]; exact hlen2 r hr)
    rw [List.length_map] at this
    have : R.length * sep.length ≤ R.length * 2 := Nat.mul_le_mul_left _ h2
    omega
  · rw [hj]; exact h t' k
end

theorem sep0 : (Str.ofString "\r\n").cps.toList = sepOf 0 := by decide +kernel
theorem sep1 : (Str.ofString "\n").cps.toList = sepOf 1 := by decide +kernel
end Mine
end

section
open PySem PySem.W PyProof.Rows PySem.Calls
set_option Elab.async false
set_option maxRecDepth 100000
set_option maxHeartbeats 2000000
set_option linter.unusedVariables false
namespace Mine
theorem six_ten {x : Str} (h : x.length ≤ 2 ^ 6) : x.length ≤ 2 ^ 10 := by omega
theorem room1 {dp : Nat} (h : dp + 3 < recursionLimit) : dp + 1 + 1 < recursionLimit := by omega
theorem room2 {dp : Nat} (h : dp + 3 < recursionLimit) : dp + 1 < recursionLimit := by omega
theorem units1 {un : Nat} (h : un + 64 < cLine) : un + 8 < cLine := by omega
theorem units3 {un : Nat} (h : un + 64 < cLine) : un + 3 + 8 < cLine := by omega

theorem rows_step {w : World} {loose : List Str} {mean : ExcName → Option Value} {mg mb : Str → Option Value} {news : CbLed} {x : Str} {t : Tok}
    {dp un : Nat} {gd : Option (List Code)} {cn : Str} {cs : Scope} {a : Addr} {ccd : Value} {cl : List (Str × Addr)} {outer : List Env} {A₀ : Around} {base h₀ : Heap} {L : Addr} {m : Str → Option Value} {s : Shared} {Q E : Value → Shared → Prop}
    (B : Below A₀ base outer h₀) (F : Fr h₀ L s.heap m) (X : (Mine.hd.heap_39 w.params).In h₀) (N : News h₀ L s.heap news) (T : Top Mine.hd.view_39 loose mean mg mb h₀) (hcs : cs.kind = .function)
    (hx : x.length ≤ 2 ^ 6) (hdp : dp + 1 < recursionLimit) (hun : un + 8 < cLine)
    (hret : ∀ (l : Addr) (us : List Value) (n : Nat) (R : List Str) (h' : Heap) (tk' : Nat), StrsAre us R → R.map (·.cps.toList) = rowsF 32 x.cps.toList → R.length ≤ 2 ^ 7 → (∀ r ∈ R, r.length ≤ 2 ^ 6) → (∀ p ∈ news, p.1 < l) → Fr h₀ L h' m → News h₀ L h' ((l, W.listOf us.toArray n) :: news) → Q (.ref l) { s with heap := h', toks := tk' }) :
      wpAny (model PySem.Challenge.rw_mj0037_01.row.prog w) (ktrTop dp un gd cn cs L a ccd cl outer) (call (.ref 67) [.str x t]) Q E s := by
  refine rows_claim w loose mean mg mb news x t dp un gd cn cs a ccd cl outer A₀ base h₀ L m s Q E B F X N T hcs (six_ten hx) hdp hun ?_
  rintro l us n h' tk' ⟨R, hS, hR⟩ hlt F' N'
  exact hret l us n R h' tk' hS hR (rows_short hx hR).1 (rows_short hx hR).2 hlt F' N'

theorem below2 {a l : Addr} {o : Obj} {rest : List (Addr × Obj)} (h : a < l ∧ AllLt l rest) : ∀ p ∈ (a, o) :: rest, p.1 ≠ l := by
  intro p hp
  rcases List.mem_cons.mp hp with rfl | hp
  · exact Nat.ne_of_lt h.1
  · exact Nat.ne_of_lt (kst_ltOf h.2 p hp)
theorem app_six {us : List Value} (h : us.length ≤ 2 ^ 6) : us.length ≤ sizeLine := by
  have : (2 : Nat) ^ 6 ≤ sizeLine := by decide +kernel
  omega
theorem app_seven {us : List Value} (h : us.length ≤ 2 ^ 7) : us.length ≤ sizeLine := by
  have : (2 : Nat) ^ 7 ≤ sizeLine := by decide +kernel
  omega
theorem app_second {prog : Program} {w : World} {A : Around} {E : Value → Shared → Prop} {s : Shared} {h₀ : Heap} {L l : Addr} {m : Str → Option Value} {p : Addr × Obj} {rest : List (Addr × Obj)} {us : List Value} {v : Value} {n : Nat} {Q : Value → Shared → Prop}
    (F : Fr h₀ L s.heap m) (N : News h₀ L s.heap (p :: (l, W.listOf us.toArray n) :: rest)) (off : ∀ p ∈ rest, p.1 ≠ l) (hsz : us.length ≤ sizeLine)
    (h : ∀ h', Fr h₀ L h' m → News h₀ L h' ((l, W.listOf (us ++ [v]).toArray (n + 1)) :: rest) → Q .none { s with heap := h' }) :
    wpAny (model prog w) A (call (.builtin "list.append") [.ref l, v]) Q E s :=
  app_last F (fun q hq => N q (.tail _ hq)) off hsz h

local macro_rules | `(tactic| walk_at "call ref") => `(tactic| (k_here; (show wpAny _ _ (call (Value.ref 67) [Value.str _ _]) _ _ _); refine' rows_step ?k1 ?k2 ?k3 ?k4 ?k5 ?kK ?kp ?kd ?ku ?kR; (case k1 => k_asm); (case k2 => k_asm); (case k3 => k_asm); (case k4 => k_asm); (case k5 => k_asm); (case kK => first | exact rfl | assumption); (case kp => assumption); (case kd => exact room1 (by assumption)); (case ku => exact units3 (by assumption)); intros; (try dsimp only); (try k_fold)))
local macro_rules | `(tactic| walk_at "pyIter ref") => `(tactic| (k_here; (with_reducible show wpAny _ _ (pyIter (Value.ref _)) (fun it s₂ => LoopAtV _ _ _ _ _ _ _ _ _ it s₂) _ _); refine row_loop (by with_reducible assumption) (by with_reducible assumption) rfl (by assumption) (by assumption) (by assumption) (by k_asm) (by k_asm) (below_ne (by assumption)) (by assumption) ?_ ?_ <;> intros))
local macro_rules | `(tactic| walk_at "pyIter str") => `(tactic| (k_here; (with_reducible show wpAny _ _ (pyIter (Value.str _ _)) (fun it s₂ => LoopAtV _ _ _ _ _ _ _ _ _ it s₂) _ _); refine sign_loop (by with_reducible assumption) rfl (by k_asm) (by k_asm) (below2 (by assumption)) (by assumption) ?_ ?_ <;> intros))
local macro_rules | `(tactic| walk_at "exec For Name Name cons nil") => `(tactic| (k_here; (rename Fr _ _ _ _ => lF'); (with_unfolding_all refine' For_invVF lF' ?k1 ?k2 ?_; (case k1 => exact rfl); (case k2 => exact rfl); k_whole)))
local macro_rules | `(tactic| walk_at "subscriptTail") => `(tactic| (k_here; (with_reducible show wpAny _ _ (subscriptTail _ _ (Value.ref _) (Value.int _ _)) _ _ _); (rename LastOk _ => hLast'); (rcases hLast' with hL' | hL') <;> subst hL'))
local macro_rules | `(tactic| walk_at "call builtin:list.append") => `(tactic| (k_here; (show wpAny _ _ (call (Value.builtin "list.append") [Value.ref _, Value.str _ _]) _ _ _); (first | refine app_last (by k_asm) (by k_asm) (by assumption) (app_six (by assumption)) ?_ | refine app_second (by k_asm) (by k_asm) (by assumption) (app_seven (by assumption)) ?_); intro h' F' N'))
local macro_rules | `(tactic| walk_at "call builtin:str.join") => `(tactic| (k_here; (show wpAny _ _ (call (Value.builtin "str.join") [Value.str _ _, Value.ref _]) _ _ _); (first | refine join_signs (by with_reducible assumption) (by assumption) (by k_asm) (by assumption) (by assumption) ?_ | refine join_told (b := 0) (by with_reducible assumption) (by with_reducible assumption) (by assumption) (by assumption) (by assumption) (by k_asm) (by assumption) (by assumption) sep0 ?_ | refine join_told (b := 1) (by with_reducible assumption) (by with_reducible assumption) (by assumption) (by assumption) (by assumption) (by k_asm) (by assumption) (by assumption) sep1 ?_); intros))

abbrev TClaim (prog : Program) (w : World) (K : Frag) (p : Program) (loose : List Str) (mean : ExcName → Option Value) (mg mb : Str → Option Value) (f : Addr) (news : List (Addr × Obj)) (pre : Prop → Prop) (vs : List Value) (R : Tok → Value) : Prop :=
  ∀ (dp un : Nat) (gd : Option (List Code)) (cn : Str) (cs : Scope) (a : Addr) (ccd : Value) (cl : List (Str × Addr)) (outer : List Env) (A₀ : Around) (base h₀ : Heap) (L : Addr) (m : Str → Option Value) (s : Shared) (Q E : Value → Shared → Prop),
    Below A₀ base outer h₀ → Fr h₀ L s.heap m → K.In h₀ → News h₀ L s.heap news → Top p loose mean mg mb h₀ → cs.kind = .function →
    pre (dp + 1 < recursionLimit → un + 8 < cLine → dp + 3 < recursionLimit → un + 64 < cLine → CbRet h₀ L m news s Q R →
      wpAny (model prog w) (ktrTop dp un gd cn cs L a ccd cl outer) (call (.ref f) vs) Q E s)

theorem told_claim (w : World) (loose : List Str) (mean : ExcName → Option Value) (mg mb : Str → Option Value) (news : CbLed) (x : Str) (e k b : Int) (t te ts tb : Tok) :
   TClaim PySem.Challenge.rw_mj0037_01.row.prog w (Mine.hd.heap_39 w.params) Mine.hd.view_39 loose mean mg mb 74 news (fun q => x.length ≤ 2 ^ 6 → 0 ≤ e → e ≤ 4 → 0 ≤ k → k ≤ 4 → EscOk e → SndOk k → LastOk b → q) [.str x t, .int e te, .int k ts, .int b tb] (fun t => .str (ofL (toldL x.cps.toList e.toNat k.toNat b)) t) := by
  w_on
  k_fill
  dsimp only [TClaim, CbRet]; intros; rename_i hret
  refine wpAny_call ?_
  k_dflt cell_enter
  w_strict (k_steps; all_goals (first
    | exact hret _ _ _ (by assumption) (cb_drop (by assumption) (fun p hp => .tail _ (.tail _ hp)))
    | (refine TurnEnd.intro (by k_asm) (by k_asm) (by (intro z hz; simp only [List.mem_cons, List.not_mem_nil, or_false, not_or] at hz; simp only [hz, if_false])) ?_
       first
         | exact told_more (row_dot (by assumption) (by assumption)) (by assumption) (by assumption) (by assumption)
         | exact told_more (row_plain (by assumption)) (by assumption) (by assumption) (by assumption)
         | exact signs_more (sign_amp (by assumption) (by assumption)) (by assumption) (by assumption) (by assumption)
         | exact signs_more (sign_less (by assumption) (by assumption) (by assumption)) (by assumption) (by assumption) (by assumption)
         | exact signs_more (sign_less0 (by assumption) (by assumption)) (by assumption) (by assumption) (by assumption)
         | exact signs_more (sign_other (by assumption) (by assumption)) (by assumption) (by assumption) (by assumption))))
end Mine
end

section
open PySem PySem.W PyProof.Rows PySem.Calls
set_option Elab.async false
set_option maxRecDepth 100000
set_option maxHeartbeats 2000000
set_option linter.unusedVariables false
namespace Mine

def tailI : List Int := [2, 0, 2, 3, 1, 2, 4, 0, 1, 2]
def signAt (a : Int) : Nat := [13, 10, 46, 38, 60, 97].getD (a.fmod 6).toNat 0
def textL (ns : List Int) : List Nat := (ns.take 8 ++ tailI).map signAt
def textS (ns : List Int) : Str := ofL (textL ns)

theorem item_sign (a : Int) : (Txt.item (Str.ofString "\r\n.&<a") (a.fmod 6)) = ⟨#[signAt a]⟩ := by
  have h0 : 0 ≤ a.fmod 6 := Int.fmod_nonneg_of_pos a (by decide)
  have h1 : a.fmod 6 < 6 := Int.fmod_lt_of_pos a (by decide)
  have key : ∀ j : Nat, j < 6 → Txt.item (Str.ofString "\r\n.&<a") (j : Int) = ⟨#[[13, 10, 46, 38, 60, 97].getD j 0]⟩ := by
    intro j hj
    rcases j with _ | _ | _ | _ | _ | _ | j
    · decide +kernel
    · decide +kernel
    · decide +kernel
    · decide +kernel
    · decide +kernel
    · decide +kernel
    · omega
  have e : a.fmod 6 = ((a.fmod 6).toNat : Int) := by omega
  rw [e, key _ (by omega)]
  rfl

/-- the signs of which the law's texts are made -/
def OkSign (c : Nat) : Prop := c = 13 ∨ c = 10 ∨ c = 46 ∨ c = 38 ∨ c = 60 ∨ c = 97
def StartOk (x : Str) : Prop := x.length ≤ 18 ∧ ∀ c ∈ x.cps.toList, OkSign c

theorem signAt_ok (a : Int) : OkSign (signAt a) := by
  have h0 : 0 ≤ a.fmod 6 := Int.fmod_nonneg_of_pos a (by decide)
  have h1 : a.fmod 6 < 6 := Int.fmod_lt_of_pos a (by decide)
  unfold signAt
  generalize hj : (a.fmod 6).toNat = j
  have hj6 : j < 6 := by omega
  rcases j with _ | _ | _ | _ | _ | _ | j
  · exact .inl rfl
  · exact .inr (.inl rfl)
  · exact .inr (.inr (.inl rfl))
  · exact .inr (.inr (.inr (.inl rfl)))
  · exact .inr (.inr (.inr (.inr (.inl rfl))))
  · exact .inr (.inr (.inr (.inr (.inr rfl))))
  · omega
theorem textL_len (ns : List Int) : (textL ns).length ≤ 18 := by
  unfold textL tailI
  simp
  omega
theorem textS_ok (ns : List Int) : StartOk (textS ns) := by
  refine ⟨?_, ?_⟩
  · unfold textS; rw [ofL_len]; exact textL_len ns
  · intro c hc
    unfold textS at hc
    rw [ofL_list] at hc
    obtain ⟨a, _, rfl⟩ := List.mem_map.mp hc
    exact signAt_ok a
theorem tailS_ok {x : Str} (h : StartOk x) : StartOk (Txt.slice x (some 1) none) := by
  have e := slice_tail x
  refine ⟨?_, ?_⟩
  · rw [str_len, e]
    have := h.1
    rw [str_len] at this
    rw [List.length_drop]; omega
  · intro c hc
    rw [e] at hc
    exact h.2 c (List.mem_of_mem_drop hc)
theorem emptyS_ok : StartOk (Str.ofString "") := by
  have e : (Str.ofString "").cps.toList = [] := by decide +kernel
  refine ⟨by decide +kernel, ?_⟩
  intro c hc; rw [e] at hc; cases hc

section
variable {prog : Program} {w : World} {A : Around} {E : Value → Shared → Prop} {s : Shared} {Q : Value → Shared → Prop} {D : Addr} {ys : List Value} {ns : List Int} {t : Tok}
theorem join_text (hl : s.heap.IsList D ys.toArray)
    (hc : CarriedAll ys (List.map (fun a => PyData.str (Txt.item (Str.ofString "\r\n.&<a") (a.fmod 6))) (List.filter (fun a => true) (List.take 8 ns ++ [2, 0, 2, 3, 1, 2, 4, 0, 1, 2]))))
    (h : ∀ t' k, StartOk (textS ns) → (textS ns).length ≤ 18 → Q (.str (textS ns) t') { s with toks := k }) :
    wpAny (model prog w) A (call (.builtin "str.join") [.str (Str.ofString "") t, .ref D]) Q E s := by
  have e1 : List.filter (fun (a : Int) => true) (List.take 8 ns ++ [2, 0, 2, 3, 1, 2, 4, 0, 1, 2]) = List.take 8 ns ++ tailI := by
    rw [List.filter_eq_self.mpr (fun _ _ => rfl)]; rfl
  rw [e1] at hc
  have e2 : List.map (fun a => PyData.str (Txt.item (Str.ofString "\r\n.&<a") (a.fmod 6))) (List.take 8 ns ++ tailI) = ((List.take 8 ns ++ tailI).map fun a => (⟨#[signAt a]⟩ : Str)).map PyData.str := by
    rw [List.map_map]
    refine List.map_congr_left fun a _ => ?_
    show PyData.str _ = PyData.str _
    rw [item_sign]
  rw [e2] at hc
  have hS := StrsAre.of_carried hc
  have hR : (((List.take 8 ns ++ tailI).map fun a => (⟨#[signAt a]⟩ : Str)).map (·.cps.toList)).flatten = textL ns := by
    rw [List.map_map]
    unfold textL
    generalize List.take 8 ns ++ tailI = l
    induction l with
    | nil => rfl
    | cons a l ih => simpa using ih
  have e0 : (Str.ofString "").cps.toList = [] := by decide +kernel
  have hj : Txt.join (Str.ofString "") ((List.take 8 ns ++ tailI).map fun a => (⟨#[signAt a]⟩ : Str)) = textS ns := by
    refine str_ext ?_
    rw [join_toList, e0, joinL_nil, hR]
    unfold textS
    rw [ofL_list]
  refine join_list (ys := (List.take 8 ns ++ tailI).map fun a => (⟨#[signAt a]⟩ : Str)) hl hS ?_ fun t' k => ?_
  · have h0 : (Str.ofString "").length = 0 := by decide +kernel
    rw [h0, lens_eq]
    have := sum_le 1 (((List.take 8 ns ++ tailI).map fun a => (⟨#[signAt a]⟩ : Str)).map (·.cps.toList)) (by
      intro x hx
      rw [List.map_map] at hx
      obtain ⟨c, _, rfl⟩ := List.mem_map.mp hx
      simp)
    have hl := textL_len ns
    unfold textL at hl
    simp only [List.length_map] at this hl
    omega
  · rw [hj]; exact h t' k (textS_ok ns) (textS_ok ns).1
end
end Mine
end

section
open PySem PySem.W PyProof.Rows PySem.Calls
set_option Elab.async false
set_option maxRecDepth 100000
set_option maxHeartbeats 2000000
set_option linter.unusedVariables false
namespace Mine

def Bit (b : Int) : Prop := b = 0 ∨ b = 1

theorem fmod_bit (z : Int) : Bit (z.fmod 2) := by
  have h0 : 0 ≤ z.fmod 2 := Int.fmod_nonneg_of_pos z (by decide)
  have h1 : z.fmod 2 < 2 := Int.fmod_lt_of_pos z (by decide)
  unfold Bit
  omega

theorem steps_four {ys : List Value} {n m k : Nat} {z : Int}
    (h : IntsAre ys (List.map (fun (k' : Int) => if n = m ∧ n ≤ k then (z.fdiv (2 ^ k'.toNat)).fmod 2 else k') (rangeKs 0 (4 - 0 : Int).toNat))) (hnm : n = m) (hnk : n ≤ k) :
    ∃ b0 b1 b2 b3 t0 t1 t2 t3, ys = [.int b0 t0, .int b1 t1, .int b2 t2, .int b3 t3] ∧ Bit b0 ∧ Bit b1 ∧ Bit b2 ∧ Bit b3 := by
  have e : rangeKs 0 (4 - 0 : Int).toNat = [0, 1, 2, 3] := by decide +kernel
  rw [e] at h
  simp only [List.map_cons, List.map_nil, if_pos (And.intro hnm hnk)] at h
  cases h with
  | cons _ _ h =>
    cases h with
    | cons _ _ h =>
      cases h with
      | cons _ _ h =>
        cases h with
        | cons _ _ h =>
          cases h
          exact ⟨_, _, _, _, _, _, _, _, rfl, fmod_bit _, fmod_bit _, fmod_bit _, fmod_bit _⟩

/-- the text behind the steps of bs, from start -/
def TlIs (start : Str) (bs : List Int) (y : Str) : Prop := StartOk start ∧ (∀ b ∈ bs, Bit b) ∧ bs.length ≤ 4 ∧ y = ofL (bs.foldl stepL start.cps.toList)

theorem TlIs.start {x : Str} (h : StartOk x) : TlIs x [] x := by
  refine ⟨h, ?_, Nat.zero_le _, ?_⟩
  · intro b hb; cases hb
  · refine str_ext ?_
    rw [ofL_list]; rfl

theorem no62 {x : Str} (h : StartOk x) : ∀ c ∈ x.cps.toList, c ≠ 62 := by
  intro c hc
  have := h.2 c hc
  unfold OkSign at this
  omega

theorem nOnes_sum : ∀ (bs : List Int), (∀ b ∈ bs, Bit b) → bs.sum = (nOnes bs : Int)
  | [], _ => rfl
  | b :: bs, h => by
    have ih := nOnes_sum bs (fun c hc => h c (by simp [hc]))
    have hb : Bit b := h b (by simp)
    rw [List.sum_cons, ih]
    unfold nOnes
    rcases hb with rfl | rfl
    · simp
    · simp; omega
theorem nOnes_le (bs : List Int) : nOnes bs ≤ bs.length := List.length_filter_le _ _

theorem TlIs.told {x y : Str} {bs : List Int} {b : Int} (h : TlIs x (bs ++ [b]) y) : y = ofL (toldL x.cps.toList (nOnes (bs ++ [b])) ((bs ++ [b]).length - nOnes (bs ++ [b])) b) := by
  obtain ⟨h1, h2, h3, rfl⟩ := h
  rw [main_rev x.cps.toList (no62 h1) bs b (fun c hc => h2 c (by simp [hc])) (h2 b (by simp))]

theorem joinL_len (sep : List Nat) (B : Nat) : ∀ R : List (List Nat), (∀ r ∈ R, r.length ≤ B) → (joinL sep R).length ≤ R.length * (B + sep.length)
  | [], _ => by simp [joinL]
  | [r], h => by
    have := h r (by simp)
    simp [joinL]; omega
  | r :: r2 :: R, h => by
    have ih := joinL_len sep B (r2 :: R) (fun q hq => h q (by simp [hq]))
    have := h r (by simp)
    show (r ++ sep ++ joinL sep (r2 :: R)).length ≤ _
    rw [List.length_append, List.length_append, List.length_cons (a := r), Nat.succ_mul]
    omega

theorem joinL_mem {sep : List Nat} {c : Nat} : ∀ {R : List (List Nat)}, c ∈ joinL sep R → c ∈ sep ∨ ∃ r ∈ R, c ∈ r
  | [], h => nomatch h
  | [r], h => .inr ⟨r, by simp, h⟩
  | r :: r2 :: R, h => by
    have h : c ∈ r ++ sep ++ joinL sep (r2 :: R) := h
    rcases List.mem_append.mp h with h | h
    · rcases List.mem_append.mp h with h | h
      · exact .inr ⟨r, by simp, h⟩
      · exact .inl h
    · rcases joinL_mem h with h | ⟨q, hq, h⟩
      · exact .inl h
      · exact .inr ⟨q, by simp [hq], h⟩

theorem toldL_len (x : Str) (h : StartOk x) (e s : Nat) (he : e ≤ 4) (hs : s ≤ 4) (b : Int) : (toldL x.cps.toList e s b).length ≤ 2 ^ 14 := by
  unfold toldL
  have hx : x.cps.toList.length ≤ 18 := by rw [← str_len]; exact h.1
  have h1 := joinL_len (sepOf b) 310 ((rowsF 32 x.cps.toList).map (rowTold e s)) (by
    intro r hr
    obtain ⟨q, hq, rfl⟩ := List.mem_map.mp hr
    have hq := rowsF_row_len _ _ q hq
    unfold rowTold
    have := flatTold_len e he q
    rw [List.length_append]
    have : (if q.head? = some 46 then List.replicate s 46 else []).length ≤ 4 := by split <;> simp <;> omega
    omega)
  have h2 := rowsF_len x.cps.toList 32
  have h3 : (sepOf b).length ≤ 2 := by unfold sepOf; split <;> decide
  rw [List.length_map] at h1
  have h4 : (rowsF 32 x.cps.toList).length * (310 + (sepOf b).length) ≤ 19 * 312 := Nat.mul_le_mul (by omega) (by omega)
  omega

theorem amps_mem {n c : Nat} (h : c ∈ amps n) : c = 97 ∨ c = 109 ∨ c = 112 ∨ c = 59 := by
  induction n with
  | zero => cases h
  | succ n ih =>
    rw [amps_succ] at h
    rcases List.mem_append.mp h with h | h
    · simp at h; omega
    · exact ih h

theorem toldL_plain (x : Str) (h : StartOk x) (e s : Nat) (b : Int) : ∀ c ∈ toldL x.cps.toList e s b, Plain c := by
  intro c hc
  unfold toldL at hc
  rcases joinL_mem hc with hc | ⟨r, hr, hc⟩
  · have : c = 13 ∨ c = 10 := by
      unfold sepOf at hc
      split at hc
      · simp at hc; omega
      · simp at hc; omega
    rcases this with rfl | rfl <;> (unfold Plain; decide)
  · obtain ⟨q, hq, rfl⟩ := List.mem_map.mp hr
    unfold rowTold at hc
    rcases List.mem_append.mp hc with hc | hc
    · split at hc
      · have := (List.mem_replicate.mp hc).2
        subst this; (unfold Plain; decide)
      · cases hc
    · obtain ⟨d, hd, hc⟩ := List.mem_flatMap.mp hc
      have hok := h.2 d (rowsF_mem _ _ q hq d hd).1
      have : c = 38 ∨ c = 97 ∨ c = 109 ∨ c = 112 ∨ c = 59 ∨ c = 60 ∨ c = 108 ∨ c = 116 ∨ c = d := by
        unfold signTold at hc
        split at hc
        · rcases List.mem_cons.mp hc with rfl | hc
          · omega
          · have := amps_mem hc; omega
        · split at hc
          · split at hc
            · simp at hc; omega
            · rcases List.mem_cons.mp hc with rfl | hc
              · omega
              · rcases List.mem_append.mp hc with hc | hc
                · have := amps_mem hc; omega
                · simp at hc; omega
          · simp at hc; omega
      unfold OkSign at hok
      rcases this with rfl | rfl | rfl | rfl | rfl | rfl | rfl | rfl | rfl
      all_goals first | (unfold Plain; decide) | (rcases hok with rfl | rfl | rfl | rfl | rfl | rfl <;> (unfold Plain; decide))

theorem start_plain {x : Str} (h : StartOk x) : PlainS x := by
  intro c hc
  have := h.2 c hc
  unfold OkSign at this
  rcases this with rfl | rfl | rfl | rfl | rfl | rfl <;> (unfold Plain; decide)

theorem TlIs.fits {x y : Str} {bs : List Int} (h : TlIs x bs y) : y.length ≤ 2 ^ 14 ∧ PlainS y := by
  rcases List.eq_nil_or_concat bs with rfl | ⟨cs, c, rfl⟩
  · obtain ⟨h1, h2, h3, h4⟩ := h
    have : y = x := by rw [h4]; exact str_ext (by rw [ofL_list]; rfl)
    subst this
    exact ⟨by have := h1.1; omega, start_plain h1⟩
  · have h' := h
    rw [List.concat_eq_append] at h h'
    have e := h.told
    have hl := h.2.2.1
    have hn := nOnes_le (cs ++ [c])
    subst e
    refine ⟨?_, ?_⟩
    · rw [ofL_len]; exact toldL_len x h.1 _ _ (by omega) (by omega) _
    · intro d hd
      rw [ofL_list] at hd
      exact toldL_plain x h.1 _ _ _ d hd

theorem TlIs.esc {x y : Str} {bs : List Int} (h : TlIs x bs y) (hl : bs.length < 4) : TlIs x (bs ++ [1]) (escS y) := by
  obtain ⟨h1, h2, h3, rfl⟩ := h
  refine ⟨h1, ?_, by simp; omega, ?_⟩
  · intro b hb
    rcases List.mem_append.mp hb with hb | hb
    · exact h2 b hb
    · simp at hb; exact .inr hb
  · rw [escS_eq, ofL_list, List.foldl_append]; rfl
theorem TlIs.quo {x y : Str} {bs : List Int} {b : Int} (h : TlIs x bs y) (hl : bs.length < 4) (hb : Bit b) (h1 : b ≠ 1) : TlIs x (bs ++ [b]) (quoS y) := by
  obtain ⟨hs, h2, h3, rfl⟩ := h
  have hb0 : b = 0 := by unfold Bit at hb; omega
  subst hb0
  refine ⟨hs, ?_, by simp; omega, ?_⟩
  · intro b hb
    rcases List.mem_append.mp hb with hb | hb
    · exact h2 b hb
    · simp at hb; exact .inl hb
  · rw [quoS_eq, ofL_list, List.foldl_append]; rfl
end Mine
end

section
open PySem PySem.W PyProof.Rows PySem.Calls
set_option Elab.async false
set_option maxRecDepth 100000
set_option maxHeartbeats 2000000
set_option linter.unusedVariables false
namespace Mine

/-- a step's end: the text is y, the frame and the ledger stand -/
def StepEnd (h₀ : Heap) (L : Addr) (m : Str → Option Value) (news : List (Addr × Obj)) (y : Str) (s : Shared) (v : Value) (s' : Shared) : Prop :=
  ∃ t h' tk', v = .str y t ∧ s' = { s with heap := h', toks := tk' } ∧ Fr h₀ L h' m ∧ News h₀ L h' news
theorem StepEnd.intro {h₀ : Heap} {L : Addr} {m : Str → Option Value} {news : List (Addr × Obj)} {y : Str} {s : Shared} {t : Tok} {h' : Heap} {tk' : Nat} (F : Fr h₀ L h' m) (N : News h₀ L h' news) :
    StepEnd h₀ L m news y s (.str y t) { s with heap := h', toks := tk' } := ⟨t, h', tk', rfl, rfl, F, N⟩

section
variable {b0 b1 b2 b3 d : Int} {n : Nat}
theorem pick0 (h : n = 0) : [b0, b1, b2, b3].getD n d = b0 := by subst h; rfl
theorem pick1 (h : n = 1) : [b0, b1, b2, b3].getD n d = b1 := by subst h; rfl
theorem pick2 (h : n = 2) : [b0, b1, b2, b3].getD n d = b2 := by subst h; rfl
theorem pick3 (h : n = 3) : [b0, b1, b2, b3].getD n d = b3 := by subst h; rfl
end

theorem join_if {M : Model} {A : Around} {E : Value → Shared → Prop} {s : Shared} {h₀ : Heap} {L : Addr} {m : Str → Option Value} {news : List (Addr × Obj)} {Q : Value → Shared → Prop} {T1 T2 : Sem Value} {b b' : Int} {start x : Str} {tx : Tok} {bs : List Int}
    (F : Fr h₀ L s.heap m) (N : News h₀ L s.heap news) (hm : m (Str.ofString "told") = some (.str x tx)) (hT : TlIs start bs x) (hbb : b' = b) (hb : Bit b) (hl : bs.length < 4)
    (w1 : wpAny M A T1 (StepEnd h₀ L m news (escS x) s) E s) (w2 : wpAny M A T2 (StepEnd h₀ L m news (quoS x) s) E s)
    (h : ∀ y t' h' tk', TlIs start (bs ++ [b]) y → Fr h₀ L h' m → News h₀ L h' news → Q (.str y t') { s with heap := h', toks := tk' }) :
    if (b' == 1) = true then wpAny M A T1 Q E s else wpAny M A T2 Q E s := by
  subst hbb
  split
  · rename_i hc
    have hc : b' = 1 := by simpa using hc
    subst hc
    refine wpAny_mono w1 ?_ fun _ _ e => e
    rintro v s' ⟨t, h', tk', rfl, rfl, F', N'⟩
    exact h _ t h' tk' (hT.esc hl) F' N'
  · rename_i hc
    have hc : b' ≠ 1 := by simpa using hc
    refine wpAny_mono w2 ?_ fun _ _ e => e
    rintro v s' ⟨t, h', tk', rfl, rfl, F', N'⟩
    exact h _ t h' tk' (hT.quo hl hb hc) F' N'

section
variable {w : World} {loose : List Str} {mean : ExcName → Option Value} {mg mb : Str → Option Value} {news : CbLed} {x : Str} {t : Tok}
    {dp un : Nat} {gd : Option (List Code)} {cn : Str} {cs : Scope} {a : Addr} {ccd : Value} {cl : List (Str × Addr)} {outer : List Env} {A₀ : Around} {base h₀ : Heap} {L : Addr} {m : Str → Option Value} {s : Shared} {Q E : Value → Shared → Prop}
    (B : Below A₀ base outer h₀) (F : Fr h₀ L s.heap m) (X : (Mine.hd.heap_39 w.params).In h₀) (N : News h₀ L s.heap news) (T : Top Mine.hd.view_39 loose mean mg mb h₀) (hcs : cs.kind = .function)
include B F X N T hcs

theorem esc_step {start : Str} {bs : List Int} (hT : TlIs start bs x) (hdp : dp + 1 < recursionLimit) (hun : un + 8 < cLine)
    (hret : ∀ (t : Tok) (h' : Heap) (tk' : Nat), Fr h₀ L h' m → News h₀ L h' news → Q (.str (escS x) t) { s with heap := h', toks := tk' }) :
      wpAny (model PySem.Challenge.rw_mj0037_01.row.prog w) (ktrTop dp un gd cn cs L a ccd cl outer) (call (.ref 60) [.str x t]) Q E s :=
  esc_claim w loose mean mg mb news x t dp un gd cn cs a ccd cl outer A₀ base h₀ L m s Q E B F X N T hcs hT.fits hdp hun hret
theorem quo_step {start : Str} {bs : List Int} (hT : TlIs start bs x) (hdp : dp + 1 < recursionLimit) (hun : un + 8 < cLine)
    (hret : ∀ (t : Tok) (h' : Heap) (tk' : Nat), Fr h₀ L h' m → News h₀ L h' news → Q (.str (quoS x) t) { s with heap := h', toks := tk' }) :
      wpAny (model PySem.Challenge.rw_mj0037_01.row.prog w) (ktrTop dp un gd cn cs L a ccd cl outer) (call (.ref 48) [.str x t]) Q E s :=
  quo_claim w loose mean mg mb news x t dp un gd cn cs a ccd cl outer A₀ base h₀ L m s Q E B F X N T hcs (by have := hT.fits.1; omega) hdp hun hret
theorem told_step {bs : List Int} {b e k b' : Int} {te tk tb : Tok} {y : Str} (hT : TlIs x (bs ++ [b]) y) (hb : b' = b) (he : e = (bs ++ [b]).sum) (hk : k = ((bs ++ [b]).length : Int) - (bs ++ [b]).sum) (hdp : dp + 3 < recursionLimit) (hun : un + 64 < cLine)
    (hret : ∀ (t : Tok) (h' : Heap) (tk' : Nat), Fr h₀ L h' m → News h₀ L h' news → Q (.str y t) { s with heap := h', toks := tk' }) :
      wpAny (model PySem.Challenge.rw_mj0037_01.row.prog w) (ktrTop dp un gd cn cs L a ccd cl outer) (call (.ref 74) [.str x t, .int e te, .int k tk, .int b' tb]) Q E s := by
  subst hb
  have hs := nOnes_sum (bs ++ [b']) hT.2.1
  have hn := nOnes_le (bs ++ [b'])
  have hl := hT.2.2.1
  have hx : x.length ≤ 2 ^ 6 := by have := hT.1.1; omega
  have he' : 0 ≤ e ∧ e ≤ 4 := by omega
  have hk' : 0 ≤ k ∧ k ≤ 4 := by omega
  refine told_claim w loose mean mg mb news x e k b' t te tk tb dp un gd cn cs a ccd cl outer A₀ base h₀ L m s Q E B F X N T hcs hx he'.1 he'.2 hk'.1 hk'.2 he' hk' (hT.2.1 b' (by simp)) (by omega) (by omega) hdp hun ?_
  intro t' h' tk' F' N'
  have ey := hT.told
  have e1 : e.toNat = nOnes (bs ++ [b']) := by omega
  have e2 : k.toNat = (bs ++ [b']).length - nOnes (bs ++ [b']) := by omega
  rw [e1, e2, ← ey]
  exact hret t' h' tk' F' N'
end

theorem ne_same {prog : Program} {w : World} {A : Around} {E : Value → Shared → Prop} {s : Shared} {Q : Value → Shared → Prop} {x : Str} {t u : Tok} (h : Q (.bool false) s) : wpAny (model prog w) A (compareOp .NotEq (.str x t) (.str x u)) Q E s :=
  ne_str (by rw [bne_self_eq_false]; exact h)
end Mine
end

section
open PySem PySem.W PyProof.Rows PySem.Calls
set_option Elab.async false
set_option maxRecDepth 100000
set_option maxHeartbeats 2000000
set_option linter.unusedVariables false
namespace Mine
local macro_rules | `(tactic| walk_at "call builtin:str.join") => `(tactic| (k_here; (show wpAny _ _ (call (Value.builtin "str.join") [Value.str _ _, Value.ref _]) _ _ _); refine join_text (by assumption) (by assumption) ?_; intros))
local macro_rules | `(tactic| walk_at "exec For Name List cons nil") => `(tactic| (k_here; (rename IntsAre _ (List.map _ _) => hI'); (obtain ⟨b0, b1, b2, b3, t0, t1, t2, t3, hys, hb0, hb1, hb2, hb3⟩ := steps_four hI' (by assumption) (by assumption)); subst hys; clear hI'; (rename StartOk _ => hS'); have hT0 := TlIs.start hS'; have hT1 := TlIs.start (tailS_ok hS'); have hT2 := TlIs.start emptyS_ok))
local macro_rules | `(tactic| walk_at "call ref") => `(tactic| (k_here; (with_reducible show wpAny _ _ (call (Value.ref 60) [Value.str _ _]) _ _ _); (with_unfolding_all (refine' esc_step ?k1 ?k2 ?k3 ?k4 ?k5 ?kK ?kp ?kd ?ku ?_; (case k1 => k_asm); (case k2 => k_asm); (case k3 => k_asm); (case k4 => k_asm); (case k5 => k_asm); (case kK => exact rfl); (case kp => with_reducible assumption); (case kd => ktr_room); (case ku => ktr_units); intros))))
local macro_rules | `(tactic| walk_at "call ref") => `(tactic| (k_here; (with_reducible show wpAny _ _ (call (Value.ref 48) [Value.str _ _]) _ _ _); (with_unfolding_all (refine' quo_step ?k1 ?k2 ?k3 ?k4 ?k5 ?kK ?kp ?kd ?ku ?_; (case k1 => k_asm); (case k2 => k_asm); (case k3 => k_asm); (case k4 => k_asm); (case k5 => k_asm); (case kK => exact rfl); (case kp => with_reducible assumption); (case kd => ktr_room); (case ku => ktr_units); intros))))
local macro_rules | `(tactic| walk_at "call ref") => `(tactic| (k_here; (with_reducible show wpAny _ _ (call (Value.ref 74) [Value.str _ _, Value.int _ _, Value.int _ _, Value.int _ _]) _ _ _); (with_unfolding_all (refine' told_step ?k1 ?k2 ?k3 ?k4 ?k5 ?kK ?kp ?kb ?ke ?kk ?kd ?ku ?_; (case k1 => k_asm); (case k2 => k_asm); (case k3 => k_asm); (case k4 => k_asm); (case k5 => k_asm); (case kK => exact rfl); (case kp => with_reducible assumption); (case kb => with_reducible (first | exact pick0 (by decide) | exact pick1 (by decide) | exact pick2 (by decide) | exact pick3 (by decide))); (case ke => with_reducible (simp only [List.nil_append, List.cons_append, List.sum_cons, List.sum_nil] <;> omega)); (case kk => with_reducible (simp only [List.nil_append, List.cons_append, List.sum_cons, List.sum_nil, List.length_cons, List.length_nil] <;> omega)); (case kd => ktr_room); (case ku => ktr_units); intros))))
local macro_rules | `(tactic| walk_at "compareOp NotEq str str") => `(tactic| (k_here; with_reducible refine ne_same ?_))
local macro_rules | `(tactic| walk_at "ite") => `(tactic| (k_here; (with_reducible show ite _ (wpAny _ _ (eval (Expr.Call _ _ _ _) _) _ _ _) (wpAny _ _ (eval (Expr.Call _ _ _ _) _) _ _ _)); (with_unfolding_all (refine' join_if ?kF ?kN ?km ?kT ?kbb ?kb ?kl ?_ ?_ ?_; (case kF => k_asm); (case kN => k_asm); (case km => exact rfl); (case kT => with_reducible assumption); (case kbb => with_reducible (first | exact pick0 (by decide) | exact pick1 (by decide) | exact pick2 (by decide) | exact pick3 (by decide))); (case kb => with_reducible assumption); (case kl => exact of_decide_eq_true rfl))); (try intros)))
local macro_rules | `(tactic| walk_at "StepEnd") => `(tactic| (with_unfolding_all exact StepEnd.intro (by k_asm) (by k_asm)))
theorem law_holds : PySem.Challenge.rw_mj0037_01.Holds := Mine.hd (by
  w_on
  w_strict (k_go0; (all_goals try k_fold); k_steps))
end Mine
end

theorem PySem.Challenge.cw_mj0037_01_holds : PySem.Challenge.rw_mj0037_01.Holds :=
  Mine.law_holds
