import PyProof.Rows.All
import Wide.All
import OpenK.AllK
import Wide.FinOn
import PySem.Challenge.RW_mq0147_01
set_option Elab.async false
set_option maxRecDepth 100000
set_option maxHeartbeats 8000000

/-! Hd -/
section P_Hd
open PySem PySem.W PyProof.Rows
namespace Mine
open_top hd for PySem.Challenge.rw_mq0147_01
end Mine
end P_Hd

/-! Re -/
section P_Re
open PySem PySem.W PySem.Calls PyProof.Rows
namespace Mine
open PySem.Builtin PySem.Builtin.Re

/-- the pattern's code words, read off the top's heap -/
noncomputable def patItems (P : Params) : Array Value := match (hd.heap_39 P).lookup 35 with
  | some ⟨_, _, .seq xs _, _⟩ => xs
  | _ => #[]
noncomputable def pat (P : Params) : Array Nat := ((patItems P).toList.map fun v => (reRawOf v).toNat).toArray

/-- the seven signs -/
def okc (c : Nat) : Bool := c == 39 || c == 34 || c == 32 || c == 97 || c == 126 || c == 37 || c == 92
/-- the two that need no quoting -/
def safe (c : Nat) : Bool := c == 97 || c == 37

theorem okc_cases {c : Nat} (h : okc c = true) : c = 39 ∨ c = 34 ∨ c = 32 ∨ c = 97 ∨ c = 126 ∨ c = 37 ∨ c = 92 := by
  simp only [okc, Bool.or_eq_true, beq_iff_eq] at h; omega

theorem pat_size (P : Params) : (pat P).size = 34 := rfl

def okOf (r : Except String (Bool × Sre.Seen)) : Option Bool := match r with
  | .ok (b, _) => some b
  | .error _ => none
theorem okOf_some {r : Except String (Bool × Sre.Seen)} {b : Bool} (h : okOf r = some b) : ∃ seen', r = .ok (b, seen') := by
  match r, h with
  | .ok (_, s'), h => cases h; exact ⟨s', rfl⟩
theorem inSet_pat (P : Params) {c : Nat} (h : okc c = true) (i : Nat) (hi : i = 5 ∨ i = 20) (seen : Sre.Seen) : ∃ seen', Sre.inSet (pat P) c (pat P).size i true seen = .ok (!safe c, seen') := by
  refine okOf_some ?_
  rcases okc_cases h with rfl | rfl | rfl | rfl | rfl | rfl | rfl <;> rcases hi with rfl | rfl <;> kernel_rfl

/-- the machine ahead of the first look -/
noncomputable def m0 (P : Params) (text : Array Nat) : Sre.M :=
  { code := pat P, text := text, lim := text.size, start := 0, pc := 18, pos := 0, handed := 0, marks := #[], mustAdvance := false, seen := ({} : Sre.Seen).add 14, lastStart := text.size }

theorem forSearch_eq (P : Params) (text : Array Nat) (h : 0 < text.size) : Sre.forSearch (pat P) text 0 0 text.size false = (m0 P text).attemptFrom 0 true := by
  have e : Sre.forSearch (pat P) text 0 0 text.size false = (if (decide (0 > text.size) || decide (text.size - 0 < 1)) = true then (({ m0 P text with lastStart := 0 } : Sre.M).say false) else (m0 P text).attemptFrom 0 true) := by kernel_rfl
  rw [e, if_neg]
  simp only [Bool.or_eq_true, decide_eq_true_eq]; omega
theorem attemptFrom_eq (P : Params) (text : Array Nat) : (m0 P text).attemptFrom 0 true = match Sre.M.admitted (m0 P text) (text.size + 1) 0 (m0 P text).seen with
    | .ok (some s, seen) => ({ m0 P text with mustAdvance := false, seen := seen } : Sre.M).attemptAt s true
    | .ok (none, seen) => ({ m0 P text with seen := seen } : Sre.M).say false
    | .error why => (m0 P text).stick why := by kernel_rfl

theorem admitted_spec (P : Params) (text : Array Nat) (hok : ∀ i, i < text.size → okc (text.getD i 0) = true) : ∀ (fuel s : Nat) (seen : Sre.Seen), text.size + 1 ≤ fuel + s →
    ∃ r seen', Sre.M.admitted (m0 P text) fuel s seen = .ok (r, seen') ∧ match r with
      | none => ∀ i, s ≤ i → i < text.size → safe (text.getD i 0) = true
      | some k => s ≤ k ∧ k < text.size ∧ safe (text.getD k 0) = false
  | 0, s, seen, h => ⟨none, seen, rfl, fun i h1 h2 => by omega⟩
  | fuel + 1, s, seen, h => by
    have e : Sre.M.admitted (m0 P text) (fuel + 1) s seen = (if s ≥ text.size then .ok (none, seen) else
        match Sre.inSet (pat P) (text.getD s 0) (pat P).size 5 true seen with
        | .ok (true, seen) => .ok (some s, seen)
        | .ok (false, seen) => Sre.M.admitted (m0 P text) fuel (s + 1) seen
        | .error why => .error why) := rfl
    rw [e]
    by_cases hs : s ≥ text.size
    · rw [if_pos hs]; exact ⟨none, seen, rfl, fun i h1 h2 => by omega⟩
    · rw [if_neg hs]
      obtain ⟨seen', e'⟩ := inSet_pat P (hok s (by omega)) 5 (.inl rfl) seen
      rw [e']
      cases hsf : safe (text.getD s 0) with
      | false => exact ⟨some s, seen', rfl, Nat.le_refl _, by omega, hsf⟩
      | true =>
        obtain ⟨r, seen2, e2, h2⟩ := admitted_spec P text hok fuel (s + 1) seen' (by omega)
        refine ⟨r, seen2, e2, ?_⟩
        cases r with
        | none => intro i h1 h3; by_cases hi : i = s
                  · rw [hi]; exact hsf
                  · exact h2 i (by omega) h3
        | some k => exact ⟨by omega, h2.2⟩

theorem exec_in (m : Sre.M) (hop : Sre.ops[m.word 0]? = some .IN) (hp : m.pos < m.lim) (seen' : Sre.Seen) (ha : Sre.accepts m.code m.pc (m.text.getD m.pos 0) (m.seen.add (m.word 0)) = .ok (true, seen')) :
    m.exec = { m with seen := seen', pc := m.pc + Sre.itemWidth m.code m.pc, pos := m.pos + 1 } := by
  unfold Sre.M.exec
  simp only [hop]
  rw [if_neg (Nat.not_le.mpr hp)]
  show (match Sre.accepts m.code m.pc (m.text.getD m.pos 0) (m.seen.add (m.word 0)) with | .error why => _ | .ok (false, seen) => _ | .ok (true, seen) => _) = _
  rw [ha]

/-- the machine at the found place -/
noncomputable def m1 (P : Params) (text : Array Nat) (k : Nat) (seen : Sre.Seen) : Sre.M := ({ m0 P text with mustAdvance := false, seen := seen } : Sre.M).attemptAt k true

theorem run_found (P : Params) (text : Array Nat) (k : Nat) (seen : Sre.Seen) (hk : k < text.size) (hok : okc (text.getD k 0) = true) (hs : safe (text.getD k 0) = false) :
    (Sre.M.runFor 4 (m1 P text k seen)).outcome = some .matched := by
  obtain ⟨seen', e'⟩ := inSet_pat P hok 20 (.inr rfl) (seen.add 13)
  rw [hs] at e'
  have ea : (m1 P text k seen).exec = { m1 P text k seen with seen := seen', pc := 33, pos := k + 1 } := by
    refine (exec_in (m1 P text k seen) (by kernel_rfl) hk seen' ?_).trans (by kernel_rfl)
    have : Sre.accepts (pat P) 18 (text.getD k 0) (seen.add 13) = Sre.inSet (pat P) (text.getD k 0) (pat P).size 20 true (seen.add 13) := by kernel_rfl
    exact this.trans e'
  have e1 : Sre.M.runFor 4 (m1 P text k seen) = Sre.M.runFor 3 ((m1 P text k seen).exec) := by kernel_rfl
  rw [e1, ea]
  kernel_rfl
theorem run_none (P : Params) (text : Array Nat) (seen : Sre.Seen) : (Sre.M.runFor 4 (({ m0 P text with seen := seen } : Sre.M).say false)).outcome = some .failed := by kernel_rfl
end Mine
end P_Re

/-! Se -/
section P_Se
open PySem PySem.W PySem.Calls PyProof.Rows
namespace Mine
open PySem.Builtin PySem.Builtin.Re

noncomputable abbrev KK (w : World) : Frag := hd.heap_39 w.params

/-- nothing but the two signs, and not empty -/
def bareL (l : List Nat) : Bool := !l.isEmpty && l.all safe

section
variable {prog : Program} {w : World} {A : Around} {E : Value → Shared → Prop} {s : Shared}

theorem drive_one (n : Nat) (m : Sre.M) : reDrive (n + 1) m = (if (m.runFor reTurnSteps).outcome.isSome then pure (m.runFor reTurnSteps) else do rule "sre.turn"; reDrive n (m.runFor reTurnSteps)) := rfl

theorem drive_end {M : Model} {m : Sre.M} {Q : Sre.M → Shared → Prop} (h : (Sre.M.runFor 4 m).outcome.isSome = true) (hQ : Q (Sre.M.runFor 4 m) s) : wpAny M A (reDrive (2 ^ 64) m) Q E s := by
  have e : reDrive (2 ^ 64) m = (if (m.runFor reTurnSteps).outcome.isSome then pure (m.runFor reTurnSteps) else do rule "sre.turn"; reDrive 18446744073709551615 (m.runFor reTurnSteps)) := by
    exact drive_one 18446744073709551615 m
  rw [e]
  have h' : (m.runFor reTurnSteps).outcome.isSome = true := h
  rw [if_pos h']
  exact wpAny_pure hQ

theorem runToEnd {M : Model} {m : Sre.M} {Q : Option Sre.M → Shared → Prop} {o : Sre.Outcome} (h : (Sre.M.runFor 4 m).outcome = some o)
    (hQ : match o with | .matched => Q (some (Sre.M.runFor 4 m)) s | .failed => Q none s | .stuck _ => False) : wpAny M A (reRunToEnd m) Q E s := by
  unfold reRunToEnd
  refine wpAny_bind (drive_end (by rw [h]; rfl) ?_)
  refine wpAny_bind (wpAny_mono (wpAny_forIn_list _ (fun _ _ s' => s' = s) (fun _ s' => s' = s) ?_ (fun _ _ e => e) _ _ rfl) ?_ (fun _ _ e => e))
  · intro x rest b s' hs
    subst hs
    split
    · exact wpAny_bind (wpAny_rule (wpAny_pure rfl))
    · exact wpAny_pure rfl
  · intro _ s' e
    subst e
    rw [h]
    cases o with
    | matched => exact wpAny_pure hQ
    | failed => exact wpAny_pure hQ
    | stuck y => exact hQ.elim

theorem pat_eq (P : Params) : ((patItems P).map reRawOf).map (·.toNat) = pat P := by
  unfold pat
  rw [Array.map_map]
  apply Array.toList_inj.mp
  simp

theorem search_found {M : Model} {pt st : Value} {m : Sre.M} {p l : Nat} {Q : Value → Shared → Prop} (h : ∀ h' a, (∀ b o, s.heap.get? b = some o → h'.get? b = some o) → Q (.ref a) { s with heap := h' }) :
    wpAny M A (reNewMatch pt st 0 p l m) Q E s := by
  unfold reNewMatch
  show wpAny M A (do let t ← newTuple (rawInt m.start :: rawInt m.handed :: []); newFields "re.Match" [st, pt, rawInt p, rawInt l, rawInt m.lastindex, t]) Q E s
  refine wpAny_bind (wpAny_newTuple ?_)
  exact wpAny_newObj_type (h _ _ fun b o e => Heap.get?_push_of_some _ (Heap.get?_push_of_some _ e))

theorem call_search {x : Str} {t : Tok} {Q : Value → Shared → Prop} (X : (KK w).In s.heap) (hok : ∀ i, i < x.cps.size → okc (x.cps.getD i 0) = true) (hne : 0 < x.cps.size) (hsz : x.cps.size ≤ sizeLine)
    (hn : bareL x.cps.toList = true → Q .none s) (hs : bareL x.cps.toList = false → ∀ h' a, (∀ b o, s.heap.get? b = some o → h'.get? b = some o) → Q (.ref a) { s with heap := h' }) :
    wpAny (model prog w) A (call (.ref 44) [.str x t]) Q E s := by
  refine wpAny_call (codeAny_of_tree ?_)
  show wpAny _ A.in1 (callAny (.ref 44) ⟨[.str x t], []⟩) _ _ s
  simp only [callAny]
  refine wpAny_bind (wpAny_load (X 44 ⟨.type "builtin_function_or_method", none, .fields #[.builtin "re.Pattern.search", .ref 36], #[]⟩ (by kernel_rfl)) ?_)
  dsimp only
  rw [if_pos (by decide)]
  show wpAny _ A.in1 (checkBoundCall "re.Pattern.search" ⟨[.ref 36, .str x t], []⟩ >>= fun _ => again (.builtin "re.Pattern.search" ⟨[.ref 36, .str x t], []⟩)) _ _ s
  refine wpAny_bind ((Looks.of_peek (K := KK w) (r := ()) X (by kernel_rfl)).here ?_)
  refine wpAny_pure ⟨plainId_quiet (by decide +kernel) _, ?_⟩
  refine codeAny_builtin (b := Builtin.«re.Pattern.search») (entryFor_of_fast (by kernel_rfl)) ?_
  unfold Builtin.«re.Pattern.search»
  refine wpAny_bind ((Looks.of_peek (K := KK w) (r := ({ pattern := .ref 36, string := .str x t, code := ((patItems w.params).map reRawOf).map (·.toNat), text := x.cps, kind := 0, groups := 0, pos := min 0 x.cps.size, lim := min (2 ^ 63 - 1) x.cps.size } : ReTarget)) X (by kernel_rfl)).here ?_)
  dsimp only
  rw [pat_eq, Nat.zero_min, Nat.min_eq_right (by rw [sizeLine_eq] at hsz; omega), forSearch_eq _ _ hne, attemptFrom_eq]
  obtain ⟨r, seen', e, hr⟩ := admitted_spec w.params x.cps hok (x.cps.size + 1) 0 (m0 w.params x.cps).seen (by omega)
  rw [e]
  unfold reAnswer
  cases r with
  | none =>
    refine wpAny_bind (runToEnd (run_none w.params x.cps seen') ?_)
    refine wpAny_pure (hn ?_)
    unfold bareL
    rw [Bool.and_eq_true]
    refine ⟨?_, List.all_eq_true.mpr fun c hc => ?_⟩
    · rw [Bool.not_eq_true', List.isEmpty_eq_false_iff]
      intro e0
      rw [← Array.length_toList, e0] at hne
      exact Nat.lt_irrefl _ hne
    · obtain ⟨i, hi, rfl⟩ := List.getElem_of_mem hc
      have hi' : i < x.cps.size := by simpa using hi
      have := hr i (Nat.zero_le _) hi'
      simpa [Array.getD, hi'] using this
  | some k =>
    obtain ⟨_, hk, hsf⟩ := hr
    refine wpAny_bind (runToEnd (o := .matched) (run_found w.params x.cps k seen' hk (hok k hk) hsf) ?_)
    refine wpAny_bind (search_found fun h' a hk' => wpAny_pure (hs ?_ h' a hk'))
    unfold bareL
    rw [Bool.and_eq_false_iff]
    right
    rw [List.all_eq_false]
    refine ⟨x.cps[k], by simp, ?_⟩
    have : x.cps.getD k 0 = x.cps[k] := by simp [Array.getD, hk]
    rw [this] at hsf
    rw [hsf]; exact Bool.false_ne_true
end
end Mine
end P_Se

/-! Txl -/
section P_Txl
open PySem PySem.W PySem.Calls PyProof.Rows
namespace Mine

/-- a text of the seven signs -/
def Ok (x : Str) : Prop := ∀ i, i < x.cps.size → okc (x.cps.getD i 0) = true
def OkL (l : List Nat) : Prop := ∀ c ∈ l, okc c = true
theorem ok_iff (x : Str) : Ok x ↔ OkL x.cps.toList := by
  constructor
  · intro h c hc
    obtain ⟨i, hi, rfl⟩ := List.getElem_of_mem hc
    have hi' : i < x.cps.size := by simpa using hi
    have := h i hi'
    simpa [Array.getD, hi'] using this
  · intro h i hi
    have := h x.cps[i] (by simp)
    simpa [Array.getD, hi] using this

def esc (c : Nat) : List Nat := if c = 39 then [39, 34, 39, 34, 39] else [c]
def spellL (l : List Nat) : List Nat := if bareL l = true then l else 39 :: (l.flatMap esc ++ [39])
def marksL (l : List Nat) : Int := if bareL l = true then 0 else 3 * (l.count 39 : Nat) + 2
def spell (x : Str) : Str := ⟨(spellL x.cps.toList).toArray⟩
def marks (x : Str) : Int := marksL x.cps.toList
def bare (x : Str) : Bool := bareL x.cps.toList
def qS : Str := ⟨#[39]⟩
def zS : Str := ⟨#[39, 34, 39, 34, 39]⟩
def bS : Str := ⟨#[32]⟩
/-- the line of two texts -/
def lineOf (x y : Str) : Str := spell x ++ bS ++ spell y

theorem esc_free {l : List Nat} (h : 39 ∉ l) : l.flatMap esc = l := by
  induction l with
  | nil => rfl
  | cons a r ih =>
    rw [List.flatMap_cons, ih (fun h' => h (.tail _ h'))]
    have : a ≠ 39 := fun e => h (e ▸ .head _)
    simp [esc, this]

theorem esc_join : ∀ parts : List Str, (∀ p ∈ parts, 39 ∉ p.cps.toList) → (Str.join qS parts).cps.toList.flatMap esc = (Str.join zS parts).cps.toList
  | [], _ => rfl
  | [p], h => by show p.cps.toList.flatMap esc = p.cps.toList; exact esc_free (h p (.head _))
  | p :: q :: r, h => by
    have ih := esc_join (q :: r) (fun p' hp' => h p' (.tail _ hp'))
    show ((p ++ qS ++ Str.join qS (q :: r)).cps.toList).flatMap esc = (p ++ zS ++ Str.join zS (q :: r)).cps.toList
    simp only [Str.cps_append, Array.toList_append, List.flatMap_append]
    rw [ih, esc_free (h p (.head _))]
    rfl

theorem rep_eq (x : Str) : (Str.join zS (Txt.split x qS)).cps.toList = x.cps.toList.flatMap esc := by
  have h := esc_join (Txt.split x qS) (StrLaws.split_free x 39)
  rw [StrLaws.join_split] at h
  exact h.symm

theorem spell_of_not {x : Str} (h : bare x = false) : qS ++ Str.join zS (Txt.split x qS) ++ qS = spell x := by
  apply Str.ext'
  apply Array.toList_inj.mp
  have h' : bareL x.cps.toList = false := h
  simp only [Str.cps_append, Array.toList_append, rep_eq, spell, spellL, h']
  simp [qS]
theorem spell_of_bare {x : Str} (h : bare x = true) : spell x = x := by
  apply Str.ext'
  apply Array.toList_inj.mp
  have h' : bareL x.cps.toList = true := h
  simp [spell, spellL, h']

theorem esc_len (l : List Nat) : (l.flatMap esc).length ≤ 5 * l.length := by
  induction l with
  | nil => simp
  | cons a r ih =>
    rw [List.flatMap_cons, List.length_append, List.length_cons]
    have : (esc a).length ≤ 5 := by unfold esc; split <;> simp
    omega
theorem spell_len (x : Str) : (spell x).length ≤ 5 * x.length + 2 := by
  show ((spellL x.cps.toList).toArray).size ≤ _
  have e : x.length = x.cps.toList.length := by simp [Str.length]
  rw [List.size_toArray, e]
  unfold spellL
  split
  · omega
  · have := esc_len x.cps.toList
    simp only [List.length_cons, List.length_append, List.length_nil]; omega
theorem line_len {x y : Str} {B : Nat} (hx : x.length ≤ B) (hy : y.length ≤ B) : (lineOf x y).length ≤ 10 * B + 5 := by
  have h1 := spell_len x
  have h2 := spell_len y
  unfold lineOf
  rw [Str.length_append, Str.length_append]
  have : bS.length = 1 := rfl
  omega

theorem esc_ok {l : List Nat} (h : OkL l) : OkL (l.flatMap esc) := by
  intro c hc
  obtain ⟨a, ha, hca⟩ := List.mem_flatMap.mp hc
  unfold esc at hca
  split at hca
  · simp at hca; rcases hca with rfl | rfl | rfl | rfl | rfl <;> decide
  · simp at hca; subst hca; exact h c ha
theorem spell_ok {x : Str} (h : Ok x) : Ok (spell x) := by
  rw [ok_iff] at h ⊢
  show OkL (spellL x.cps.toList).toArray.toList
  unfold spellL
  split
  · exact h
  · intro c hc
    simp at hc
    rcases hc with rfl | hc | rfl
    · decide
    · obtain ⟨a, ha, hca⟩ := hc; exact esc_ok h c (List.mem_flatMap.mpr ⟨a, by simpa using ha, hca⟩)
    · decide
theorem line_ok {x y : Str} (hx : Ok x) (hy : Ok y) : Ok (lineOf x y) := by
  have h1 := (ok_iff _).mp (spell_ok hx)
  have h2 := (ok_iff _).mp (spell_ok hy)
  rw [ok_iff]
  intro c hc
  simp only [lineOf, Str.cps_append, Array.toList_append, List.mem_append] at hc
  rcases hc with (hc | hc) | hc
  · exact h1 c hc
  · simp [bS] at hc; subst hc; decide
  · exact h2 c hc

theorem cnt_eq (c : Nat) (l : List Nat) : cnt c l = (l.count c : Nat) := by
  induction l with
  | nil => rfl
  | cons a r ih =>
    rw [cnt_cons, ih, List.count_cons]
    by_cases h : a = c
    · simp [h]; omega
    · simp [h]
theorem count_eq (x : Str) : Txt.count x qS = (x.cps.toList.count 39 : Nat) := (count_cnt x 39).trans (cnt_eq 39 _)
theorem esc_count (l : List Nat) : (l.flatMap esc).count 39 = 3 * l.count 39 := by
  induction l with
  | nil => rfl
  | cons a r ih =>
    rw [List.flatMap_cons, List.count_append, ih, List.count_cons]
    unfold esc
    by_cases h : a = 39
    · simp [h]; omega
    · simp [h]
theorem bareL_count {l : List Nat} (h : bareL l = true) : l.count 39 = 0 := by
  unfold bareL at h
  rw [Bool.and_eq_true, List.all_eq_true] at h
  rw [List.count_eq_zero]
  intro hm
  have := h.2 39 hm
  exact absurd this (by decide)
theorem spell_count (x : Str) : Txt.count (spell x) qS = marks x := by
  rw [count_eq]
  show (((spellL x.cps.toList).toArray.toList.count 39 : Nat) : Int) = marksL x.cps.toList
  rw [List.toList_toArray]
  unfold spellL marksL
  split
  · rename_i h; rw [bareL_count h]; rfl
  · rw [List.count_cons, List.count_append, esc_count]
    simp; omega
theorem line_not_bare (x y : Str) : bare (lineOf x y) = false := by
  unfold bare bareL
  rw [Bool.and_eq_false_iff]
  right
  rw [List.all_eq_false]
  refine ⟨32, ?_, by decide⟩
  simp [lineOf, Str.cps_append, bS]
theorem line_marks (x y : Str) : marks (lineOf x y) = 3 * (marks x + marks y) + 2 := by
  have h := line_not_bare x y
  have h' : bareL (lineOf x y).cps.toList = false := h
  have e1 := spell_count x
  have e2 := spell_count y
  rw [count_eq] at e1 e2
  unfold marks at e1 e2 ⊢
  rw [← e1, ← e2]
  unfold marksL
  rw [h', if_neg Bool.false_ne_true]
  have : (lineOf x y).cps.toList.count 39 = (spell x).cps.toList.count 39 + (spell y).cps.toList.count 39 := by
    simp only [lineOf, Str.cps_append, Array.toList_append, List.count_append]
    have : bS.cps.toList.count 39 = 0 := by decide
    omega
  rw [this]; omega
theorem marks_nonneg (x : Str) : 0 ≤ marks x := by
  unfold marks marksL
  split <;> omega
theorem marks_of_not {x : Str} (h : bare x = false) : marks x = 3 * Txt.count x qS + 2 := by
  have h' : bareL x.cps.toList = false := h
  rw [count_eq]
  unfold marks marksL
  rw [h', if_neg Bool.false_ne_true]
theorem marks_of_bare {x : Str} (h : bare x = true) : marks x = 0 := by
  have h' : bareL x.cps.toList = true := h
  unfold marks marksL
  rw [h', if_pos rfl]
def aS : Str := ⟨#[97, 37]⟩
theorem goes_eq (c : Nat) : aS.cps.contains c = safe c := by
  by_cases h1 : c = 97 <;> by_cases h2 : c = 37 <;> simp [aS, safe, h1, h2]
theorem strip_len (x : Str) : (Txt.stripChars x aS).length = 0 ↔ x.cps.toList.all safe = true := by
  unfold Txt.stripChars
  rw [PyProof.Rows.stripBy_eq]
  have e : aS.cps.contains = safe := funext goes_eq
  rw [e]
  obtain ⟨a0, a1, a2⟩ := lo_facts safe x
  obtain ⟨b0, b1, b2, b3⟩ := hi_facts safe x (stripLo safe true x) a0
  have hl : (Builtin.Str.strSub x (stripLo safe true x) (stripHi safe true x (stripLo safe true x))).length = stripHi safe true x (stripLo safe true x) - stripLo safe true x := by
    have := congrArg List.length (StrLaws.strSub_toList x (stripLo safe true x) (stripHi safe true x (stripLo safe true x)))
    simp only [Array.length_toList, List.length_take, List.length_drop] at this
    unfold Str.length at *
    omega
  rw [hl]
  constructor
  · intro h
    rw [List.all_eq_true]
    intro c hc
    obtain ⟨i, hi, rfl⟩ := List.getElem_of_mem hc
    have hi' : i < x.cps.size := by simpa using hi
    have hg : x.cps.getD i 0 = x.cps.toList[i] := by simp [Array.getD, hi']
    rw [← hg]
    by_cases hlt : i < stripLo safe true x
    · exact a1 i hlt
    · exact b2 i (by omega) hi'
  · intro h
    rw [List.all_eq_true] at h
    have hs : ∀ i, i < x.length → safe (x.cps.getD i 0) = true := fun i hi => by
      have hi' : i < x.cps.size := hi
      have : x.cps.getD i 0 = x.cps[i] := by simp [Array.getD, hi']
      rw [this]; exact h _ (by simp)
    rcases a2 with h1 | h1
    · omega
    · by_cases hlt : stripLo safe true x < x.length
      · rw [hs _ hlt] at h1; cases h1
      · omega
end Mine
end P_Txl

/-! Base -/
section P_Base
open PySem PySem.W PySem.Calls PyProof.Rows
namespace Mine

/-- what the calls lean on of the top -/
structure Gd (w : World) (mg mb : Str → Option Value) (h : Heap) : Prop where
  K : (KK w).In h
  g : h.Ns mainGlobals mg
  b : h.Ns builtinsNs mb
  lim : h.NoLimit
  bt : ∀ x : Str, x ≠ "__name__" → mb x = bootBuiltins x
  bm : ∃ m o, BMod h mainGlobals mg m o

theorem Gd.keeps {w : World} {mg mb : Str → Option Value} {h h' : Heap} (G : Gd w mg mb h) (hk : ∀ b o, h.get? b = some o → h'.get? b = some o) : Gd w mg mb h' :=
  ⟨G.K.keeps hk, G.g.keeps hk, G.b.keeps hk, G.lim.keeps hk, G.bt, let ⟨m, o, x⟩ := G.bm; ⟨m, o, x.keeps hk⟩⟩

section
variable {w : World} {mg mb : Str → Option Value} {h : Heap}
theorem Gd.find (G : Gd w mg mb h) : mg "_find_unsafe" = some (.ref 44) := mg_of G.K G.g (by kernel_rfl)
theorem Gd.quote (G : Gd w mg mb h) : mg "quote" = some (.ref 51) := mg_of G.K G.g (by kernel_rfl)
theorem Gd.join (G : Gd w mg mb h) : mg "join" = some (.ref 43) := mg_of G.K G.g (by kernel_rfl)
theorem Gd.heappop (G : Gd w mg mb h) : mg "heappop" = some (.ref 58) := mg_of G.K G.g (by kernel_rfl)
theorem Gd.heapreplace (G : Gd w mg mb h) : mg "heapreplace" = some (.ref 65) := mg_of G.K G.g (by kernel_rfl)
theorem Gd.heapify (G : Gd w mg mb h) : mg "heapify" = some (.ref 72) := mg_of G.K G.g (by kernel_rfl)
theorem Gd.siftdown (G : Gd w mg mb h) : mg "_siftdown" = some (.ref 79) := mg_of G.K G.g (by kernel_rfl)
theorem Gd.siftup (G : Gd w mg mb h) : mg "_siftup" = some (.ref 86) := mg_of G.K G.g (by kernel_rfl)
theorem Gd.words (G : Gd w mg mb h) : mg "_law_words" = some (.ref 91) := mg_of G.K G.g (by kernel_rfl)
theorem Gd.bare (G : Gd w mg mb h) : mg "_law_bare" = some (.ref 98) := mg_of G.K G.g (by kernel_rfl)
theorem Gd.spelled (G : Gd w mg mb h) : mg "_law_spelled" = some (.ref 105) := mg_of G.K G.g (by kernel_rfl)
theorem Gd.marks (G : Gd w mg mb h) : mg "_law_marks" = some (.ref 112) := mg_of G.K G.g (by kernel_rfl)
theorem Gd.nested (G : Gd w mg mb h) : mg "_law_nested" = some (.ref 117) := mg_of G.K G.g (by kernel_rfl)
theorem Gd.due (G : Gd w mg mb h) : mg "_law_due" = some (.ref 122) := mg_of G.K G.g (by kernel_rfl)
theorem Gd.least (G : Gd w mg mb h) : mg "_law_least" = some (.ref 127) := mg_of G.K G.g (by kernel_rfl)
theorem Gd.blt (G : Gd w mg mb h) {x : Str} {v : Value} (hm : nsIn (KK w) mainGlobals x = some none) (hb : bootBuiltins x = some v) (hn : x ≠ "__name__") : mg x = none ∧ mb x = some v :=
  ⟨mg_none_of G.K G.g hm, (G.bt x hn).trans hb⟩
theorem Gd.len (G : Gd w mg mb h) : mg "len" = none ∧ mb "len" = some (.builtin "len") := G.blt (by kernel_rfl) (by boot_fast) (by decide)
theorem Gd.range (G : Gd w mg mb h) : mg "range" = none ∧ mb "range" = some (.type "range") := G.blt (by kernel_rfl) (by boot_fast) (by decide)
theorem Gd.reversed (G : Gd w mg mb h) : mg "reversed" = none ∧ mb "reversed" = some (.type "reversed") := G.blt (by kernel_rfl) (by boot_fast) (by decide)
theorem Gd.sum (G : Gd w mg mb h) : mg "sum" = none ∧ mb "sum" = some (.builtin "sum") := G.blt (by kernel_rfl) (by boot_fast) (by decide)
theorem Gd.min (G : Gd w mg mb h) : mg "min" = none ∧ mb "min" = some (.builtin "min") := G.blt (by kernel_rfl) (by boot_fast) (by decide)
end

section
variable {prog : Program} {w : World} {A : Around} {E : Value → Shared → Prop} {s : Shared} {mg mb : Str → Option Value}

theorem callF {a : Addr} {name qual : Str} {params : Arguments} {body : List Stmt} {scope : Scope} {dV kV doc pm cdv ct oc : Value} {an od : Option Addr} {osl : Array (Option Value)}
    {args : List Value} {binds : List (Str × Value)} {Q : Value → Shared → Prop} (G : Gd w mg mb s.heap)
    (ho : (KK w).lookup a = some ⟨oc, od, .func (fnOf name qual params body scope dV kV doc pm an cdv ct), osl⟩) (hcd : codeIn (KK w) cdv qual = true) (hroom : A.depth < recursionLimit)
    (hbind : bindArgs (fnOf name qual params body scope dV kV doc pm an cdv ct) ⟨args, []⟩ = pure binds) (hcell : ∀ x ∈ scope.names, x.2 ≠ .cell) (hloc : ∀ x ∈ binds, scope.names.lookup x.1 = some .local)
    (hco : scope.isCoroutine = false) (hgen : scope.isGenerator = false) (hk : scope.kind = .function)
    (h : ∀ h₁ L, L = s.heap.objs.size → Fr s.heap L h₁ (fun x => binds.reverse.lookup x) →
      wpAny (model prog w) (A.deeper (envOf qual scope L a cdv)) (execs body (envOf qual scope L a cdv)) (fun f s' => Q (match f with | .ret v => v | _ => .none) s') (fun _ _ => False) { s with heap := h₁, toks := s.toks + binds.length }) :
    wpAny (model prog w) A (call (.ref a) args) Q E s := by
  refine wpAny_call (codeAny_call_def hroom (G.K _ _ ho) rfl G.lim (codeRec_of G.K hcd) rfl (.of_eq hbind) hcell hloc (fun h₁ hn hkp => ?_) hco hgen hk)
  exact wpAny_mono (h h₁ _ rfl ⟨hn, hkp, Nat.le_refl _⟩) (fun _ _ x => x) fun _ _ x => x.elim

variable {M : Model} {env : Env}
/-- a name of the module's -/
theorem gnm {x : Str} {pos : Pos} {v : Value} {Q : Value → Shared → Prop} (hg : s.heap.Ns env.globals mg) (hb : mg x = some v) (h : Q v s)
    (hk : env.scope.kind = .function := by rfl) (hx : env.kindOf x = some .globalImplicit := by rfl) (hd : (x == ("__debug__" : Str)) = false := by decide) :
    wpAny M A (eval (.Name x pos) env) Q E s := Calls.Name_function_global hk hx (Calls.loadGlobal_global (env := env) hg hb h) hd
/-- a built-in name -/
theorem bnm {x : Str} {pos : Pos} {v : Value} {Q : Value → Shared → Prop} (hg : s.heap.Ns env.globals mg) (hb : s.heap.Ns env.builtins mb) (hv : mg x = none ∧ mb x = some v) (h : Q v s)
    (hk : env.scope.kind = .function := by rfl) (hx : env.kindOf x = some .globalImplicit := by rfl) (hd : (x == ("__debug__" : Str)) = false := by decide) :
    wpAny M A (eval (.Name x pos) env) Q E s := Calls.Name_function_global hk hx (Calls.loadGlobal_builtin (env := env) hg hv.1 hb hv.2 h) hd

def isFnB (K : Frag) (a : Addr) : Bool := match K.lookup a with
  | some ⟨_, _, .func _, _⟩ => true
  | _ => false
/-- a call of one of the text's defs -/
theorem cdef {f : Str} {pf pos : Pos} {e : Expr} {rest : List Expr} {a : Addr} {Q : Value → Shared → Prop} (hg : s.heap.Ns env.globals mg) (hm : mg f = some (.ref a)) (hf : isFnB (KK w) a = true)
    (h : wpAny M A (spliced (backTo pos (starEach (e :: rest) env))) (fun vs s₁ => (KK w).In s₁.heap ∧ wpAny M A (call (.ref a) vs) Q E s₁) E s)
    (hk : env.scope.kind = .function := by rfl) (hx : env.kindOf f = some .globalImplicit := by rfl) (he : starEach (e :: rest) env = (false, eval e env) :: starEach rest env := by rfl)
    (hd : (f == ("__debug__" : Str)) = false := by decide) :
    wpAny M A (eval (.Call (.Name f pf) (e :: rest) [] pos) env) Q E s := by
  unfold isFnB at hf
  split at hf
  · rename_i oc od fd osl ho
    exact Call_ (gnm hg hm (callWith_def (o := ⟨oc, od, .func fd, osl⟩) (fd := fd) rfl (wpAny_mono h (fun vs s₁ h₁ => ⟨h₁.1 _ _ ho, h₁.2⟩) fun _ _ x => x) he) hk hx hd)
  · cases hf
/-- a call of a built-in function -/
theorem cblt {f : Str} {pf pos : Pos} {e : Expr} {rest : List Expr} {id : String} {Q : Value → Shared → Prop} (hg : s.heap.Ns env.globals mg) (hb : s.heap.Ns env.builtins mb) (hv : mg f = none ∧ mb f = some (.builtin id))
    (h : wpAny M A (spliced (backTo pos (starEach (e :: rest) env))) (fun vs s₁ => wpAny M A (call (.builtin id) vs) Q E s₁) E s)
    (hk : env.scope.kind = .function := by rfl) (hx : env.kindOf f = some .globalImplicit := by rfl) (he : starEach (e :: rest) env = (false, eval e env) :: starEach rest env := by rfl)
    (hp : (backTo pos (starEach rest env)).any (·.1) = false := by rfl) (hd : (f == ("__debug__" : Str)) = false := by decide) :
    wpAny M A (eval (.Call (.Name f pf) (e :: rest) [] pos) env) Q E s :=
  Call_ (bnm hg hb hv (callWith_builtin1 h he hp) hk hx hd)
/-- a call of a built-in type -/
theorem ctyp {f : Str} {pf pos : Pos} {e : Expr} {rest : List Expr} {T : String} {Q : Value → Shared → Prop} (hg : s.heap.Ns env.globals mg) (hb : s.heap.Ns env.builtins mb) (hv : mg f = none ∧ mb f = some (.type T))
    (h : wpAny M A (spliced (backTo pos (starEach (e :: rest) env))) (fun vs s₁ => wpAny M A (call (.type T) vs) Q E s₁) E s)
    (hk : env.scope.kind = .function := by rfl) (hx : env.kindOf f = some .globalImplicit := by rfl) (he : starEach (e :: rest) env = (false, eval e env) :: starEach rest env := by rfl)
    (hp : (backTo pos (starEach rest env)).any (·.1) = false := by rfl) (hd : (f == ("__debug__" : Str)) = false := by decide) :
    wpAny M A (eval (.Call (.Name f pf) (e :: rest) [] pos) env) Q E s :=
  Call_ (bnm hg hb hv (Pv.callWith_type1 h he hp) hk hx hd)
/-- the arguments of a call, one by one -/
theorem arg1 {e : Expr} {pos : Pos} {Q : List Value → Shared → Prop} (h : wpAny M A (eval e env) (fun v s₁ => Q [v] s₁) E s) (he : starEach [e] env = [(false, eval e env)] := by rfl) :
    wpAny M A (spliced (backTo pos (starEach [e] env))) Q E s := args_cons (wpAny_mono h (fun _ _ h₁ => args_nil h₁) fun _ _ x => x) he
theorem arg2 {e f : Expr} {pos : Pos} {Q : List Value → Shared → Prop} (h : wpAny M A (eval e env) (fun v s₁ => wpAny M A (eval f env) (fun v' s₂ => Q [v, v'] s₂) E s₁) E s)
    (he : starEach [e, f] env = (false, eval e env) :: starEach [f] env := by rfl) (hf : starEach [f] env = [(false, eval f env)] := by rfl) :
    wpAny M A (spliced (backTo pos (starEach [e, f] env))) Q E s := args_cons (wpAny_mono h (fun _ _ h₁ => arg1 h₁ hf) fun _ _ x => x) he
theorem arg3 {e f g : Expr} {pos : Pos} {Q : List Value → Shared → Prop} (h : wpAny M A (eval e env) (fun v s₁ => wpAny M A (eval f env) (fun v' s₂ => wpAny M A (eval g env) (fun v'' s₃ => Q [v, v', v''] s₃) E s₂) E s₁) E s)
    (he : starEach [e, f, g] env = (false, eval e env) :: starEach [f, g] env := by rfl) (hf : starEach [f, g] env = (false, eval f env) :: starEach [g] env := by rfl) (hg : starEach [g] env = [(false, eval g env)] := by rfl) :
    wpAny M A (spliced (backTo pos (starEach [e, f, g] env))) Q E s := args_cons (wpAny_mono h (fun _ _ h₁ => arg2 h₁ hf hg) fun _ _ x => x) he
/-- the bound search of the pattern -/
theorem csearch {f : Str} {pf pos : Pos} {e : Expr} {Q : Value → Shared → Prop} (hg : s.heap.Ns env.globals mg) (hm : mg f = some (.ref 44))
    (h : wpAny M A (eval e env) (fun v s₁ => (KK w).In s₁.heap ∧ wpAny M A (call (.ref 44) [v]) Q E s₁) E s)
    (hk : env.scope.kind = .function := by rfl) (hx : env.kindOf f = some .globalImplicit := by rfl) (he : starEach [e] env = [(false, eval e env)] := by rfl) (hd : (f == ("__debug__" : Str)) = false := by decide) :
    wpAny M A (eval (.Call (.Name f pf) [e] [] pos) env) Q E s := by
  refine Call_ (gnm hg hm ?_ hk hx hd)
  rw [he]
  unfold callWith
  refine wpAny_bind (wpAny_holding (evalArgs_plain (spliced_cons (wpAny_mono h (fun v s₁ h₁ => spliced_nil (wpAny_bind (wpAny_standAt ?_))) fun _ _ x => x))))
  refine wpAny_bind (m := keeperOf (.ref 44)) ?_
  unfold keeperOf
  refine wpAny_bind (wpAny_load (h₁.1 44 ⟨.type "builtin_function_or_method", none, .fields #[.builtin "re.Pattern.search", .ref 36], #[]⟩ (by kernel_rfl)) ?_)
  show wpAny M A (pure Keeper.machine) _ E s₁
  refine wpAny_pure ?_
  exact wpAny_bind (wpAny_mono h₁.2 (fun r s₂ hr => wpAny_bind (wpAny_holding (wpAny_point (wpAny_pure hr)))) fun _ _ x => x)
end
theorem eval_mcall {env : Env} (o : Expr) (name : Str) (apos pos : Pos) (args : List Expr) : eval (.Call (.Attribute o name apos) args [] pos) env = (do
    let ov ← attributeBase o name env (eval o env)
    standAt apos.atName
    methodCall o name apos pos env ov (args.length + 0) (backTo pos (starEach args env)) []) := rfl
theorem base_Name (x : Str) (p : Pos) (n : Str) (env : Env) (m : Sem Value) : attributeBase (.Name x p) n env m = m := rfl
theorem base_Constant (c : Const) (k : Nat) (p : Pos) (n : Str) (env : Env) (m : Sem Value) : attributeBase (.Constant c k p) n env m = m := rfl
theorem base_Call (f : Expr) (a : Expr) (r : List Expr) (p : Pos) (n : Str) (env : Env) (m : Sem Value) : attributeBase (.Call f (a :: r) [] p) n env m = m := by
  cases f <;> rfl
section
variable {M : Model} {A : Around} {E : Value → Shared → Prop} {s : Shared} {env : Env}
theorem mcall {o : Expr} {name : Str} {apos pos : Pos} {args : List Expr} {Q : Value → Shared → Prop} (hb : attributeBase o name env (eval o env) = eval o env)
    (hf : methodCallForm (args.length + 0) (backTo pos (starEach args env)) [] = true) (hl : (apos.endLine == pos.line) = true)
    (h : wpAny M A (eval o env) (fun ov s₁ => wpAny M A (getMethod ov name (do return (← importBound o env).getD true)) (fun fx s₂ => wpAny M A (callWith pos fx.1 fx.2 (backTo pos (starEach args env)) []) Q E s₂) E s₁) E s) :
    wpAny M A (eval (.Call (.Attribute o name apos) args [] pos) env) Q E s := by
  rw [eval_mcall, hb]
  refine wpAny_bind (wpAny_mono h (fun ov s₁ h₁ => wpAny_bind (wpAny_standAt ?_)) fun _ _ x => x)
  unfold methodCall calleeOf methodCallPos
  rw [hf, hl]
  simp only [if_true, Bool.not_true, Bool.or_true]
  refine wpAny_bind (wpAny_holding (wpAny_mono h₁ (fun fx s₂ h₂ => ?_) fun _ _ x => x))
  exact wpAny_bind (wpAny_pure h₂)
theorem mcallN {x : Str} {px : Pos} {name : Str} {apos pos : Pos} {args : List Expr} {Q : Value → Shared → Prop}
    (h : wpAny M A (eval (.Name x px) env) (fun ov s₁ => wpAny M A (getMethod ov name (do return (← importBound (.Name x px) env).getD true)) (fun fx s₂ => wpAny M A (callWith pos fx.1 fx.2 (backTo pos (starEach args env)) []) Q E s₂) E s₁) E s)
    (hf : methodCallForm (args.length + 0) (backTo pos (starEach args env)) [] = true := by rfl) (hl : (apos.endLine == pos.line) = true := by rfl) :
    wpAny M A (eval (.Call (.Attribute (.Name x px) name apos) args [] pos) env) Q E s := mcall (base_Name _ _ _ _ _) hf hl h
theorem mcallC {c : Const} {k : Nat} {px : Pos} {name : Str} {apos pos : Pos} {args : List Expr} {Q : Value → Shared → Prop}
    (h : wpAny M A (eval (.Constant c k px) env) (fun ov s₁ => wpAny M A (getMethod ov name (do return (← importBound (.Constant c k px) env).getD true)) (fun fx s₂ => wpAny M A (callWith pos fx.1 fx.2 (backTo pos (starEach args env)) []) Q E s₂) E s₁) E s)
    (hf : methodCallForm (args.length + 0) (backTo pos (starEach args env)) [] = true := by rfl) (hl : (apos.endLine == pos.line) = true := by rfl) :
    wpAny M A (eval (.Call (.Attribute (.Constant c k px) name apos) args [] pos) env) Q E s := mcall (base_Constant _ _ _ _ _ _) hf hl h
theorem mcallF {f a : Expr} {r : List Expr} {px : Pos} {name : Str} {apos pos : Pos} {args : List Expr} {Q : Value → Shared → Prop}
    (h : wpAny M A (eval (.Call f (a :: r) [] px) env) (fun ov s₁ => wpAny M A (getMethod ov name (do return (← importBound (.Call f (a :: r) [] px) env).getD true)) (fun fx s₂ => wpAny M A (callWith pos fx.1 fx.2 (backTo pos (starEach args env)) []) Q E s₂) E s₁) E s)
    (hf : methodCallForm (args.length + 0) (backTo pos (starEach args env)) [] = true := by rfl) (hl : (apos.endLine == pos.line) = true := by rfl) :
    wpAny M A (eval (.Call (.Attribute (.Call f (a :: r) [] px) name apos) args [] pos) env) Q E s := mcall (base_Call _ _ _ _ _ _ _) hf hl h
end
end Mine
end P_Base

/-! Quo -/
section P_Quo
open PySem PySem.W PySem.Calls PyProof.Rows
namespace Mine
section
variable {prog : Program} {w : World} {A : Around} {E : Value → Shared → Prop} {s : Shared} {mg mb : Str → Option Value}
theorem lit_q : Str.ofString "'" = qS := by decide +kernel
theorem lit_z : Str.ofString "'\"'\"'" = zS := by decide +kernel
theorem lit_qq : Str.ofString "''" = spell Str.empty := by decide +kernel
theorem lit_b : Str.ofString " " = bS := by decide +kernel
theorem lit_a : Str.ofString "a%" = aS := by decide +kernel
theorem lit_e : Str.ofString "" = Str.empty := by decide +kernel
theorem bare_len {x : Str} (h : x.length = 0) : x = Str.empty := by
  obtain ⟨c⟩ := x
  have : c = #[] := Array.size_eq_zero_iff.mp h
  subst this; rfl

theorem quote_spec {x : Str} {t : Tok} {Q : Value → Shared → Prop} (G : Gd w mg mb s.heap) (hroom : A.depth < recursionLimit) (hok : Ok x) (hsz : x.length ≤ 250000)
    (h : ∀ h' tk t', (∀ b o, s.heap.get? b = some o → h'.get? b = some o) → Q (.str (spell x) t') { s with heap := h', toks := tk }) : wpAny (model prog w) A (call (.ref 51) [.str x t]) Q E s := by
  refine' callF (a := 51) (binds := [(Str.ofString "s", .str x t)]) G ?ho ?hcd hroom ?hb ?hc ?hl ?c1 ?c2 ?c3 ?_
  case ho => exact rfl
  case hcd => kernel_rfl
  case hb => exact rfl
  case hc => decide
  case hl => exact locs rfl
  case c1 => exact rfl
  case c2 => exact rfl
  case c3 => exact rfl
  intro h₁ L hL F
  refine wpAny_execs_cons (wpAny_If (isTrue_not (isTrue_plain (ld F rfl (SBL.truthy (by omega) ?_)))))
  dsimp only
  by_cases hx : x.length = 0
  · rw [if_pos (by simp [hx])]
    refine wpAny_execs_cons (wpAny_Return_some (Constant_str ?_))
    have e := bare_len hx
    subst e
    rw [lit_qq]
    exact h _ _ _ F.keep
  · rw [if_neg (by simp [hx])]
    refine wpAny_execs_nil (wpAny_execs_cons (wpAny_If (wpAny_isTrue_Compare1 ?_)))
    refine csearch (w := w) (G.g.keeps F.keep) G.find (ld F rfl ⟨G.K.keeps F.keep, ?_⟩)
    refine call_search (G.K.keeps F.keep) hok (by unfold Str.length at hx; omega) (by rw [sizeLine_eq]; unfold Str.length at hsz; omega) (fun hb => ?_) (fun hb h₂ a hk => ?_)
    · refine wpAny_pure ?_
      refine wpAny_is_self (by rfl) (wpAny_truthy_bool ?_)
      rw [if_pos rfl]
      refine wpAny_execs_cons (wpAny_Return_some (ld F rfl ?_))
      have e := h h₁ (s.toks + [(Str.ofString "s", Value.str x t)].length + 1 + 1) t F.keep
      rw [spell_of_bare hb] at e
      exact e
    · have F₂ := F.keeps hk
      refine wpAny_pure ?_
      refine wpAny_is_other (by rfl) (by intro e; cases e) (wpAny_truthy_bool ?_)
      rw [if_neg Bool.false_ne_true]
      refine wpAny_execs_nil (wpAny_execs_cons (wpAny_Return_some (wpAny_BinOp (wpAny_BinOp (Constant_str ?_)))))
      refine mcallN (ld F₂ rfl ?_)
      with_reducible refine GM.replace ?_
      refine callWith_method1 (arg2 (Constant_str (Constant_str ?_)))
      dsimp only
      rw [lit_q, lit_z]
      refine SC.replaceW (Nat.succ_ne_zero _) (Nat.succ_ne_zero _) (Nat.ne_of_lt (Nat.lt_succ_self _)) (by decide) (by omega) (by decide) (fun t1 k1 => ?_)
      dsimp only
      have hl1 : (Txt.replace x qS zS).length ≤ 5 * x.length := by
        show (Txt.replace x ⟨#[39]⟩ zS).cps.size ≤ _
        rw [StrLaws.replace_one]
        have := esc_len x.cps.toList
        rw [← rep_eq, Array.length_toList, Array.length_toList] at this
        exact this
      refine SBL.add (fun t2 k2 hl2 => ?_) (by rw [sizeLine_eq]; have : qS.length = 1 := rfl; omega)
      refine Constant_str ?_
      refine SBL.add (fun t3 k3 hl3 => ?_) (by rw [sizeLine_eq]; have : qS.length = 1 := rfl; omega)
      have e : qS ++ Txt.replace x qS zS ++ qS = spell x := by
        rw [show Txt.replace x qS zS = Str.join zS (Txt.split x qS) from StrLaws.replace_one x zS 39]
        exact spell_of_not hb
      rw [e]
      exact h _ _ _ F₂.keep
end
end Mine
end P_Quo

/-! Sml -/
section P_Sml
open PySem PySem.W PySem.Calls PyProof.Rows
namespace Mine
local macro_rules | `(tactic| walk_at "ld") => `(tactic| ((with_reducible refine' ld (by assumption) ?mv ?_ ?mk ?ml ?md); (case mv => exact rfl); (case mk => exact rfl); (case ml => exact rfl); (case md => decide)))
local macro_rules | `(tactic| walk_at "st") => `(tactic| ((with_reducible refine stN (by assumption) (by assumption) ?_ ?mk ?ml); (case mk => exact rfl); (case ml => exact rfl)))
local macro_rules | `(tactic| walk_at "1") => `(tactic| first
  | with_reducible refine wpAny_execs_cons ?_
  | with_reducible refine wpAny_execs_nil ?_
  | with_reducible refine wpAny_Return_some ?_
  | with_reducible refine wpAny_If ?_
  | with_reducible refine wpAny_BinOp ?_
  | with_reducible refine Constant_str ?_
  | with_reducible refine wpAny_Constant_int ?_
  | with_reducible refine Subscript_ ?_
  | with_reducible refine isTrue_not ?_
  | ((with_reducible refine wpAny_isTrue_Compare1 ?_ ?mh); (case mh => exact rfl))
  | ((with_reducible refine wpAny_Compare1 ?_ ?mh); (case mh => exact rfl))
  | ((with_reducible refine wpAny_Assign_Name ?_ ?mh); (case mh => exact rfl))
  | ((with_reducible refine wpAny_Assign_Subscript ?_ ?mh); (case mh => exact rfl))
  | walk_at "ld"
  | ((with_reducible refine isTrue_plain ?_ ?mh); (case mh => exact rfl))
  | ((with_reducible refine mcallN ?_ ?mh ?mi); (case mh => exact rfl); (case mi => exact rfl))
  | ((with_reducible refine mcallC ?_ ?mh ?mi); (case mh => exact rfl); (case mi => exact rfl))
  | ((with_reducible refine mcallF ?_ ?mh ?mi); (case mh => exact rfl); (case mi => exact rfl))
  | with_reducible refine wpAny_truthy_bool ?_)
section
variable {prog : Program} {w : World} {A : Around} {E : Value → Shared → Prop} {s : Shared} {mg mb : Str → Option Value}

theorem bare_eq (x : Str) : bare x = ((x != Str.empty) && (Txt.stripChars x aS == Str.empty)) := by
  unfold bare bareL
  have h1 : (!x.cps.toList.isEmpty) = (x != Str.empty) := by
    obtain ⟨c⟩ := x
    rw [Bool.eq_iff_iff]
    simp [Str.empty]
  have h2 : x.cps.toList.all safe = (Txt.stripChars x aS == Str.empty) := by
    rw [Bool.eq_iff_iff, ← strip_len, beq_iff_eq]
    exact ⟨bare_len, fun h => by rw [h]; rfl⟩
  rw [h1, h2]

theorem bare_spec {x : Str} {t : Tok} {Q : Value → Shared → Prop} (G : Gd w mg mb s.heap) (hroom : A.depth < recursionLimit) (hsz : x.length ≤ 250000)
    (h : ∀ h' tk, (∀ b o, s.heap.get? b = some o → h'.get? b = some o) → Q (.bool (bare x)) { s with heap := h', toks := tk }) : wpAny (model prog w) A (call (.ref 98) [.str x t]) Q E s := by
  refine' callF (a := 98) (binds := [(Str.ofString "word", .str x t)]) G ?ho ?hcd hroom ?hb ?hc ?hl ?c1 ?c2 ?c3 ?_
  case ho => exact rfl
  case hcd => kernel_rfl
  case hb => exact rfl
  case hc => decide
  case hl => exact locs rfl
  case c1 => exact rfl
  case c2 => exact rfl
  case c3 => exact rfl
  intro h₁ L hL F
  iterate 2 walk_at "1"
  with_reducible refine BoolOp_and ?_
  iterate 3 walk_at "1"
  rw [lit_e]
  refine PyProof.Rows.ne_str (wpAny_truthy_bool ?_)
  by_cases hx : (x != Str.empty) = true
  · rw [if_pos hx]
    with_reducible refine BoolOp_one ?_
    iterate 3 walk_at "1"
    with_reducible refine GM.strip ?_
    refine callWith_method1 (arg1 (Constant_str ?_))
    rw [lit_a]
    refine SCL.stripChars (fun t1 k1 hl1 => ?_) (by rw [sizeLine_eq]; omega)
    refine Constant_str (PyProof.Rows.eq_str ?_)
    have e := h h₁ (k1 + 1) F.keep
    rw [bare_eq, hx, Bool.true_and] at e
    exact e
  · rw [if_neg hx]
    have e := h h₁ (s.toks + 1 + 1) F.keep
    have hx' : (x != Str.empty) = false := by simpa using hx
    rw [bare_eq, hx', Bool.false_and] at e
    rw [hx']
    exact e

theorem marks_spec {x : Str} {t : Tok} {Q : Value → Shared → Prop} (G : Gd w mg mb s.heap) (hroom : A.depth + 1 < recursionLimit) (hsz : x.length ≤ 250000)
    (h : ∀ h' tk t', (∀ b o, s.heap.get? b = some o → h'.get? b = some o) → Q (.int (marks x) t') { s with heap := h', toks := tk }) : wpAny (model prog w) A (call (.ref 112) [.str x t]) Q E s := by
  refine' callF (a := 112) (binds := [(Str.ofString "word", .str x t)]) G ?ho ?hcd (by omega) ?hb ?hc ?hl ?c1 ?c2 ?c3 ?_
  case ho => exact rfl
  case hcd => kernel_rfl
  case hb => exact rfl
  case hc => decide
  case hl => exact locs rfl
  case c1 => exact rfl
  case c2 => exact rfl
  case c3 => exact rfl
  intro h₁ L hL F
  refine wpAny_execs_cons (wpAny_If (isTrue_plain (cdef (w := w) (G.g.keeps F.keep) G.bare (by kernel_rfl) (arg1 (ld F rfl ⟨G.K.keeps F.keep, ?_⟩)))))
  refine bare_spec (G.keeps F.keep) (by show A.depth + 1 < _; exact hroom) hsz (fun h₂ tk hk => wpAny_truthy_bool ?_)
  have F₂ := F.keeps hk
  cases hb : bare x with
  | true =>
    rw [if_pos rfl]
    refine wpAny_execs_cons (wpAny_Return_some (wpAny_Constant_int ?_))
    have e := h h₂ (tk + 1) tk F₂.keep
    rw [marks_of_bare hb] at e
    exact e
  | false =>
    rw [if_neg Bool.false_ne_true]
    iterate 8 walk_at "1"
    with_reducible refine GM.count ?_
    refine callWith_method1 (arg1 (Constant_str ?_))
    rw [lit_q]
    refine SC.count ?_
    have hc : Txt.count x qS ≤ x.length := by
      rw [count_eq]
      have := List.count_le_length (a := 39) (l := x.cps.toList)
      rw [Array.length_toList] at this
      unfold Str.length; omega
    have hc0 : 0 ≤ Txt.count x qS := by rw [count_eq]; omega
    refine PyProof.Rows.mul_int ?_ (IntMulOk.of_left (by decide))
    refine wpAny_Constant_int (PyProof.Rows.add_int ?_)
    have e := h h₂ (tk + 1 + 1 + 1 + 1 + 1 + 1) (tk + 1 + 1 + 1 + 1 + 1) F₂.keep
    rw [marks_of_not hb] at e
    exact e

theorem spelled_spec {x : Str} {t : Tok} {Q : Value → Shared → Prop} (G : Gd w mg mb s.heap) (hroom : A.depth + 1 < recursionLimit) (hsz : x.length ≤ 250000)
    (h : ∀ h' tk t', (∀ b o, s.heap.get? b = some o → h'.get? b = some o) → Q (.str (spell x) t') { s with heap := h', toks := tk }) : wpAny (model prog w) A (call (.ref 105) [.str x t]) Q E s := by
  refine' callF (a := 105) (binds := [(Str.ofString "word", .str x t)]) G ?ho ?hcd (by omega) ?hb ?hc ?hl ?c1 ?c2 ?c3 ?_
  case ho => exact rfl
  case hcd => kernel_rfl
  case hb => exact rfl
  case hc => decide
  case hl => exact locs rfl
  case c1 => exact rfl
  case c2 => exact rfl
  case c3 => exact rfl
  intro h₁ L hL F
  refine wpAny_execs_cons (wpAny_If (isTrue_plain (cdef (w := w) (G.g.keeps F.keep) G.bare (by kernel_rfl) (arg1 (ld F rfl ⟨G.K.keeps F.keep, ?_⟩)))))
  refine bare_spec (G.keeps F.keep) (by show A.depth + 1 < _; exact hroom) hsz (fun h₂ tk hk => wpAny_truthy_bool ?_)
  have F₂ := F.keeps hk
  have N₂ : News s.heap L h₂ [] := News.nil
  cases hb : bare x with
  | true =>
    rw [if_pos rfl]
    refine wpAny_execs_cons (wpAny_Return_some (ld F₂ rfl ?_))
    have e := h h₂ tk t F₂.keep
    rw [spell_of_bare hb] at e
    exact e
  | false =>
    rw [if_neg Bool.false_ne_true]
    iterate 8 walk_at "1"
    with_reducible refine GM.join ?_
    refine callWith_method1 (arg1 ?_)
    iterate 2 walk_at "1"
    with_reducible refine GM.split ?_
    refine callWith_method1 (arg1 (Constant_str ?_))
    rw [lit_q, lit_z]
    refine splitN1A F₂ N₂ (by decide) (fun l h₃ k3 e3 hs3 _ hl3 F₃ N₃ => ?_) (by rw [sizeLine_eq]; omega)
    have hwt := split_weight x qS (Nat.le_refl _)
    refine join_listW hl3 (by simpa using hs3) (by decide) (by rw [e3]; omega) (fun t4 k4 => ?_)
    have ej : Txt.join zS (l.map fun p => p.1) = Str.join zS (Txt.split x qS) := by
      rw [e3]; exact StrLaws.glued_eq_join zS _
    rw [ej]
    have hl1 : (Str.join zS (Txt.split x qS)).length ≤ 5 * x.length := by
      have := esc_len x.cps.toList
      rw [← rep_eq, Array.length_toList, Array.length_toList] at this
      exact this
    refine SBL.add (fun t5 k5 hl5 => ?_) (by rw [sizeLine_eq]; have : qS.length = 1 := rfl; omega)
    refine Constant_str ?_
    refine SBL.add (fun t6 k6 hl6 => ?_) (by rw [sizeLine_eq]; have : qS.length = 1 := rfl; omega)
    rw [spell_of_not hb]
    exact h _ _ _ F₃.keep
end
end Mine
end P_Sml

/-! Ent -/
section P_Ent
open PySem PySem.W PySem.Calls PyProof.Rows
namespace Mine

/-- an entry of the heap: the number, the place, the text -/
structure Ent where
  m : Int
  p : Int
  x : Str
def entObj (e : Ent) (t1 t2 t3 : Tok) : Obj := { cls := .type "tuple", data := .seq #[.int e.m t1, .int e.p t2, .str e.x t3] 0 }
def IsEnt (h : Heap) (a : Addr) (e : Ent) : Prop := ∃ t1 t2 t3, h.get? a = some (entObj e t1 t2 t3)
theorem IsEnt.keeps {h h' : Heap} {a : Addr} {e : Ent} (x : IsEnt h a e) (hk : ∀ o, h.get? a = some o → h'.get? a = some o) : IsEnt h' a e := let ⟨t1, t2, t3, g⟩ := x; ⟨t1, t2, t3, hk _ g⟩
theorem IsEnt.typeIs {s : Shared} {a : Addr} {e : Ent} (x : IsEnt s.heap a e) : s.TypeIs (.ref a) "tuple" := let ⟨_, _, _, g⟩ := x; ⟨_, g, rfl⟩
theorem IsEnt.inj {h : Heap} {a : Addr} {e f : Ent} (x : IsEnt h a e) (y : IsEnt h a f) : e = f := by
  obtain ⟨t1, t2, t3, g⟩ := x
  obtain ⟨u1, u2, u3, k⟩ := y
  rw [g] at k
  have := Option.some.inj k
  unfold entObj at this
  simp at this
  obtain ⟨⟨a1, _⟩, ⟨a2, _⟩, a3, _⟩ := this
  cases e; cases f; simp_all

/-- the order of the entries, as tuples go -/
def ltE (e f : Ent) : Bool := if e.m = f.m then (if e.p = f.p then (if e.x = f.x then false else decide (e.x.cps.toList < f.x.cps.toList)) else decide (e.p < f.p)) else decide (e.m < f.m)

section
variable {prog : Program} {w : World} {A : Around} {E : Value → Shared → Prop} {s : Shared}

theorem rc_int {a b : Int} {t u : Tok} {Q : Value → Shared → Prop} (h : Q (.bool (decide (a < b))) s) : wpAny (model prog w) A (richCompare .Lt (.int a t) (.int b u)) Q E s := PyProof.Rows.lt_int (t := t) (u := u) h
theorem rc_str {a b : Str} {t u : Tok} {Q : Value → Shared → Prop} (h : Q (.bool (decide (a.cps.toList < b.cps.toList))) s) : wpAny (model prog w) A (richCompare .Lt (.str a t) (.str b u)) Q E s := PySem.P.lt_str (t := t) (u := u) h

theorem ent_lt_tree {a b : Addr} {x y : Ent} {P : Fin → Shared → Prop} (hx : IsEnt s.heap a x) (hy : IsEnt s.heap b y) (h : P (.done (.ret (.bool (ltE x y)))) s) :
    wpAny (model prog w) A (Builtin.«tuple.__lt__» ⟨[.ref a, .ref b], []⟩) P E s := by
  have hTb := hy.typeIs
  obtain ⟨t1, t2, t3, hoa⟩ := hx
  obtain ⟨u1, u2, u3, hob⟩ := hy
  show wpAny _ _ (isInstance (.ref b) (.type "tuple") >>= _) _ _ s
  refine wpAny_bind (wpAny_isInstance hTb isSubtype_tuple_tuple ?_)
  simp only [Bool.not_true, Bool.false_eq_true, if_false]
  refine wpAny_bind (wpAny_tupleItemsOf hoa rfl ?_)
  refine wpAny_bind (wpAny_tupleItemsOf hob rfl ?_)
  refine wpAny_bind ?_
  show wpAny _ _ (forIn [(Value.int x.m t1, Value.int y.m u1), (Value.int x.p t2, Value.int y.p u2), (Value.str x.x t3, Value.str y.x u3)] _ _) _ _ s
  rw [List.forIn_cons]
  refine wpAny_bind (wpAny_bind (wpAny_eqBool_int ?_))
  by_cases h1 : x.m = y.m
  · rw [h1, beq_self_eq_true]
    simp only [Bool.not_true, Bool.false_eq_true, if_false]
    refine wpAny_pure ?_
    dsimp only
    rw [List.forIn_cons]
    refine wpAny_bind (wpAny_bind (wpAny_eqBool_int ?_))
    by_cases h2 : x.p = y.p
    · rw [h2, beq_self_eq_true]
      simp only [Bool.not_true, Bool.false_eq_true, if_false]
      refine wpAny_pure ?_
      dsimp only
      rw [List.forIn_cons]
      refine wpAny_bind (wpAny_bind (PyProof.Rows.eqBool_str ?_))
      by_cases h3 : x.x = y.x
      · rw [h3, beq_self_eq_true]
        simp only [Bool.not_true, Bool.false_eq_true, if_false]
        refine wpAny_pure ?_
        dsimp only
        rw [List.forIn_nil]
        refine wpAny_pure (wpAny_pure ?_)
        have e : ltE x y = false := by simp [ltE, h1, h2, h3]
        rw [e] at h
        exact h
      · rw [show (x.x == y.x) = false from beq_eq_false_iff_ne.mpr h3]
        simp only [Bool.not_false, if_true]
        refine wpAny_bind (wpAny_rule (wpAny_bind (rc_str (wpAny_bind (wpAny_pure (wpAny_pure ?_))))))
        dsimp only
        refine wpAny_pure (wpAny_pure ?_)
        have e : ltE x y = decide (x.x.cps.toList < y.x.cps.toList) := by simp [ltE, h1, h2, h3]
        rw [e] at h
        exact h
    · rw [show (x.p == y.p) = false from beq_eq_false_iff_ne.mpr h2]
      simp only [Bool.not_false, if_true]
      refine wpAny_bind (wpAny_rule (wpAny_bind (rc_int (wpAny_bind (wpAny_pure (wpAny_pure ?_))))))
      dsimp only
      refine wpAny_pure (wpAny_pure ?_)
      have e : ltE x y = decide (x.p < y.p) := by simp [ltE, h1, h2]
      rw [e] at h
      exact h
  · rw [show (x.m == y.m) = false from beq_eq_false_iff_ne.mpr h1]
    simp only [Bool.not_false, if_true]
    refine wpAny_bind (wpAny_rule (wpAny_bind (rc_int (wpAny_bind (wpAny_pure (wpAny_pure ?_))))))
    dsimp only
    refine wpAny_pure (wpAny_pure ?_)
    have e : ltE x y = decide (x.m < y.m) := by simp [ltE, h1]
    rw [e] at h
    exact h

theorem ent_lt {a b : Addr} {x y : Ent} {Q : Value → Shared → Prop} (hu : A.units < cLine) (hx : IsEnt s.heap a x) (hy : IsEnt s.heap b y) (h : Q (.bool (ltE x y)) s) :
    wpAny (model prog w) A (compareOp .Lt (.ref a) (.ref b)) Q E s :=
  cmp_ofLt (wpAny_richCompare_same_room (op := .Lt) hx.typeIs hy.typeIs F.slot_tuple_lt
    (wpAny_call_entry F.slot_tuple_lt hx.typeIs F.entry_tuple_lt (ent_lt_tree hx hy ⟨_, rfl, (fun e => nomatch e), h⟩) (F.args_tuple_lt_2 _ _)) hu)
end
end Mine
end P_Ent

/-! Sift -/
section P_Sift
open PySem PySem.W PySem.Calls PyProof.Rows
namespace Mine
local macro_rules | `(tactic| walk_at "ld") => `(tactic| ((with_reducible refine' ld (by assumption) ?mv ?_ ?mk ?ml ?md); (case mv => exact rfl); (case mk => exact rfl); (case ml => exact rfl); (case md => decide)))
local macro_rules | `(tactic| walk_at "st") => `(tactic| ((with_reducible refine stN (by assumption) (by assumption) ?_ ?mk ?ml); (case mk => exact rfl); (case ml => exact rfl)))
local macro_rules | `(tactic| walk_at "1") => `(tactic| first
  | with_reducible refine wpAny_execs_cons ?_
  | with_reducible refine wpAny_execs_nil ?_
  | with_reducible refine wpAny_Return_some ?_
  | with_reducible refine wpAny_If ?_
  | with_reducible refine wpAny_BinOp ?_
  | (with_reducible refine Constant_str ?_; try dsimp only)
  | (with_reducible refine wpAny_Constant_int ?_; try dsimp only)
  | with_reducible refine Subscript_ ?_
  | with_reducible refine isTrue_not ?_
  | ((with_reducible refine wpAny_isTrue_Compare1 ?_ ?mh); (case mh => exact rfl))
  | ((with_reducible refine wpAny_Compare1 ?_ ?mh); (case mh => exact rfl))
  | ((with_reducible refine wpAny_Assign_Name ?_ ?mh); (case mh => exact rfl))
  | ((with_reducible refine wpAny_Assign_Subscript ?_ ?mh); (case mh => exact rfl))
  | walk_at "ld"
  | ((with_reducible refine isTrue_plain ?_ ?mh); (case mh => exact rfl))
  | ((with_reducible refine mcallN ?_ ?mh ?mi); (case mh => exact rfl); (case mi => exact rfl))
  | ((with_reducible refine mcallC ?_ ?mh ?mi); (case mh => exact rfl); (case mi => exact rfl))
  | ((with_reducible refine mcallF ?_ ?mh ?mi); (case mh => exact rfl); (case mi => exact rfl))
  | with_reducible refine wpAny_truthy_bool ?_
  | (with_reducible refine PyProof.Rows.add_int ?_; try dsimp only)
  | (with_reducible refine PyProof.Rows.sub_int ?_; try dsimp only)
  | with_reducible refine PyProof.Rows.gt_int ?_
  | with_reducible refine PyProof.Rows.lt_int ?_
  | with_reducible refine PyProof.Rows.eq_int ?_
  | with_reducible refine PyProof.Rows.ne_int ?_
  | with_reducible refine wpAny_Break ?_
  | with_reducible refine wpAny_Continue ?_)
local macro_rules | `(tactic| walk_at "go") => `(tactic| repeat walk_at "1")
/-- the values are entries -/
def Ents (h : Heap) (ent : Value → Ent) (vs : List Value) : Prop := ∀ v ∈ vs, ∃ a, v = .ref a ∧ IsEnt h a (ent v)
def ltV (ent : Value → Ent) (v w : Value) : Bool := ltE (ent v) (ent w)

theorem isEnt_ne {h : Heap} {a l : Addr} {e : Ent} {xs : Array Value} (x : IsEnt h a e) (hl : h.PlainList l xs) : a ≠ l := by
  rintro rfl
  obtain ⟨_, _, _, g⟩ := x
  obtain ⟨n, ho⟩ := hl
  rw [g] at ho
  simp [entObj] at ho
theorem Ents.keeps {h h' : Heap} {ent : Value → Ent} {vs : List Value} {l : Addr} {xs : Array Value} (x : Ents h ent vs) (hl : h.PlainList l xs) (hk : ∀ b o, b ≠ l → h.get? b = some o → h'.get? b = some o) : Ents h' ent vs :=
  fun v hv => let ⟨a, e, i⟩ := x v hv; ⟨a, e, i.keeps fun o ho => hk a o (isEnt_ne i hl) ho⟩
theorem Ents.sub {h : Heap} {ent : Value → Ent} {vs ws : List Value} (x : Ents h ent vs) (hs : ∀ v ∈ ws, v ∈ vs) : Ents h ent ws := fun v hv => x v (hs v hv)

/-- _siftdown, its loop -/
def sdownA (lt : Value → Value → Bool) (nv : Value) (st : Nat) : Nat → Nat → Array Value → Array Value
  | 0, pos, xs => xs.setIfInBounds pos nv
  | f + 1, pos, xs => if st < pos then (if lt nv (xs.getD ((pos - 1) / 2) .none) then sdownA lt nv st f ((pos - 1) / 2) (xs.setIfInBounds pos (xs.getD ((pos - 1) / 2) .none)) else xs.setIfInBounds pos nv) else xs.setIfInBounds pos nv

theorem sdownA_stop {lt : Value → Value → Bool} {nv : Value} {st f pos : Nat} {xs : Array Value} (h : ¬ st < pos) : sdownA lt nv st f pos xs = xs.setIfInBounds pos nv := by
  cases f with
  | zero => rfl
  | succ f => unfold sdownA; rw [if_neg h]

theorem sdownA_fuel {lt : Value → Value → Bool} {nv : Value} {st : Nat} : ∀ (f f' pos : Nat) (xs : Array Value), pos ≤ f → pos ≤ f' → sdownA lt nv st f pos xs = sdownA lt nv st f' pos xs
  | 0, f', pos, xs, h, _ => by
    have : pos = 0 := by omega
    subst this
    rw [sdownA_stop (by omega), sdownA_stop (by omega)]
  | f + 1, 0, pos, xs, _, h => by
    have : pos = 0 := by omega
    subst this
    rw [sdownA_stop (by omega), sdownA_stop (by omega)]
  | f + 1, f' + 1, pos, xs, h, h' => by
    unfold sdownA
    by_cases hlt : st < pos
    · rw [if_pos hlt, if_pos hlt]
      split
      · exact sdownA_fuel f f' _ _ (by omega) (by omega)
      · rfl
    · rw [if_neg hlt, if_neg hlt]
theorem sdownA_step {lt : Value → Value → Bool} {nv : Value} {st n : Nat} {xs : Array Value} (h : st < n) : sdownA lt nv st n n xs =
    if lt nv (xs.getD ((n - 1) / 2) .none) = true then sdownA lt nv st ((n - 1) / 2) ((n - 1) / 2) (xs.setIfInBounds n (xs.getD ((n - 1) / 2) .none)) else xs.setIfInBounds n nv := by
  obtain ⟨k, rfl⟩ : ∃ k, n = k + 1 := ⟨n - 1, by omega⟩
  conv => lhs; unfold sdownA
  rw [if_pos h]
  split
  · exact sdownA_fuel _ _ _ _ (by omega) (Nat.le_refl _)
  · rfl

section
variable {prog : Program} {w : World} {A : Around} {E : Value → Shared → Prop} {s : Shared} {mg mb : Str → Option Value} {g : Heap}

/-- a call that turns one list -/
theorem callM {l : Addr} {a : Addr} {name qual : Str} {params : Arguments} {body : List Stmt} {scope : Scope} {dV kV doc pm cdv ct oc : Value} {an od : Option Addr} {osl : Array (Option Value)}
    {args : List Value} {binds : List (Str × Value)} {xs : Array Value} {Q : Value → Shared → Prop} (G : Gd w mg mb g) (St : ∀ b o, g.get? b = some o → s.heap.get? b = some o) (hgl : g.get? l = none) (hl : s.heap.PlainList l xs)
    (ho : (KK w).lookup a = some ⟨oc, od, .func (fnOf name qual params body scope dV kV doc pm an cdv ct), osl⟩) (hcd : codeIn (KK w) cdv qual = true) (hroom : A.depth < recursionLimit)
    (hbind : bindArgs (fnOf name qual params body scope dV kV doc pm an cdv ct) ⟨args, []⟩ = pure binds) (hcell : ∀ x ∈ scope.names, x.2 ≠ .cell) (hloc : ∀ x ∈ binds, scope.names.lookup x.1 = some .local)
    (hco : scope.isCoroutine = false) (hgen : scope.isGenerator = false) (hk : scope.kind = .function)
    (h : ∀ h₁ L, Gd w mg mb (s.heap.hide l) → Fr (s.heap.hide l) L h₁ (fun x => binds.reverse.lookup x) → l ≠ L → h₁.PlainList l xs → (∀ b o, s.heap.get? b = some o → h₁.get? b = some o) →
      wpAny (model prog w) (A.deeper (envOf qual scope L a cdv)) (execs body (envOf qual scope L a cdv)) (fun f s' => Q (match f with | .ret v => v | _ => .none) s') (fun _ _ => False) { s with heap := h₁, toks := s.toks + binds.length }) :
    wpAny (model prog w) A (call (.ref a) args) Q E s := by
  refine callF (G.keeps St) ho hcd hroom hbind hcell hloc hco hgen hk (fun h₁ L hL F => ?_)
  have hG : ∀ b o, g.get? b = some o → (s.heap.hide l).get? b = some o := fun b o e => by
    rw [Heap.hide_ne _ (fun q : b = l => by rw [q, hgl] at e; cases e)]; exact St b o e
  have hlt : l < s.heap.objs.size := let ⟨_, e⟩ := hl; Heap.lt_size e
  exact h h₁ L (G.keeps hG) ⟨F.ns, fun b o e => F.keep b o (Heap.of_hide e), by rw [Heap.hide_size]; exact F.above⟩ (by rw [hL]; exact Nat.ne_of_lt hlt) (hl.at fun o e => F.keep _ o e) F.keep

theorem item_l {value slice : Expr} {l : Addr} {items : Array Value} {k : Int} {t : Tok} {x : Value} {Q : Value → Shared → Prop} (hl : s.heap.PlainList l items) (h0 : 0 ≤ k) (hk : k < 2 ^ 63) (hx : items[k.toNat]? = some x) (h : Q x s)
    (hs : subscripted slice false (.ref l) (.int k t) = operate [.ref l, .int k t] (getItem (.ref l) (.int k t))) : wpAny (model prog w) A (subscriptTail value slice (.ref l) (.int k t)) Q E s :=
  tail_any hl.isList.typeIs slot_list_getitem.lookup (wpAny_getItem_list hl.isList h0 hk hx h) hs
theorem item_n {value : Expr} {y : Str} {py : Pos} {l : Addr} {items : Array Value} {k : Int} {t : Tok} {x : Value} {Q : Value → Shared → Prop} (hl : s.heap.PlainList l items) (h0 : 0 ≤ k) (hk : k < 2 ^ 63) (hx : items[k.toNat]? = some x) (h : Q x s) :
    wpAny (model prog w) A (subscriptTail value (.Name y py) (.ref l) (.int k t)) Q E s := item_l hl h0 hk hx h rfl
theorem item_c {value : Expr} {c : Const} {n : Nat} {py : Pos} {l : Addr} {items : Array Value} {k : Int} {t : Tok} {x : Value} {Q : Value → Shared → Prop} (hl : s.heap.PlainList l items) (h0 : 0 ≤ k) (hk : k < 2 ^ 63) (hx : items[k.toNat]? = some x) (h : Q x s) :
    wpAny (model prog w) A (subscriptTail value (.Constant c n py) (.ref l) (.int k t)) Q E s := item_l hl h0 hk hx h rfl
theorem item_b {value a b : Expr} {op : Operator} {py : Pos} {l : Addr} {items : Array Value} {k : Int} {t : Tok} {x : Value} {Q : Value → Shared → Prop} (hl : s.heap.PlainList l items) (h0 : 0 ≤ k) (hk : k < 2 ^ 63) (hx : items[k.toNat]? = some x) (h : Q x s) :
    wpAny (model prog w) A (subscriptTail value (.BinOp a op b py) (.ref l) (.int k t)) Q E s := item_l hl h0 hk hx h rfl

theorem getD_some {xs : Array Value} {i : Nat} (h : i < xs.size) : xs[i]? = some (xs.getD i .none) := by simp [Array.getD, h]

/-- the frame's names, and the one list -/
structure LS (b : Heap) (L l : Addr) (h : Heap) (m : Str → Option Value) (items : Array Value) : Prop where
  F : Fr b L h m
  hl : h.PlainList l items
  ne : l ≠ L
  free : b.get? l = none

theorem LS.kept {b h h' : Heap} {L l : Addr} {m : Str → Option Value} {items : Array Value} (X : LS b L l h m items) (hk : ∀ a o, h.get? a = some o → h'.get? a = some o) : LS b L l h' m items :=
  ⟨X.F.keeps hk, X.hl.at fun o e => hk _ o e, X.ne, X.free⟩
theorem LS.turned {b h h' : Heap} {L l : Addr} {m : Str → Option Value} {items items' : Array Value} (X : LS b L l h m items) (hl : h'.PlainList l items') (hk : ∀ a o, a ≠ l → h.get? a = some o → h'.get? a = some o) : LS b L l h' m items' :=
  ⟨⟨X.F.ns.at fun o e => hk L o (Ne.symm X.ne) e, fun a o e => hk a o (fun q => by have := X.free; rw [← q, e] at this; cases this) (X.F.keep a o e), X.F.above⟩, hl, X.ne, X.free⟩

section
variable {M : Model} {name : Str} {scope : Scope} {L a l : Addr} {cd : Value} {b : Heap} {m : Str → Option Value} {items : Array Value}
theorem stL {x : Str} {v : Value} {Q : Unit → Shared → Prop} (X : LS b L l s.heap m items) (h : ∀ h', LS b L l h' (fun y => if y = x then some v else m y) items → (∀ c o, c ≠ L → s.heap.get? c = some o → h'.get? c = some o) → Q () { s with heap := h', toks := s.toks + 1 })
    (hk : scope.kind = .function) (hl : (envOf name scope L a cd).kindOf x = some .local) : wpAny M A (storeName (envOf name scope L a cd) x v) Q E s :=
  wpAny_storeName_local hl X.F.ns (fun h' hn hs => h h' ⟨X.F.set hn hs, X.hl.extBut hs.extBut X.ne, X.ne, X.free⟩ fun c o hc e => hs.extBut c o hc e)
    (by show (scope.kind == .class || (scope.kind == .module && L != mainGlobals)) = false; rw [hk]; rfl)
theorem ldL {x : Str} {pos : Pos} {v : Value} {Q : Value → Shared → Prop} (X : LS b L l s.heap m items) (hv : m x = some v) (h : Q v s)
    (hk : scope.kind = .function) (hl : (envOf name scope L a cd).kindOf x = some .local) (hd : (x == ("__debug__" : Str)) = false) : wpAny M A (eval (.Name x pos) (envOf name scope L a cd)) Q E s := ld X.F hv h hk hl hd
end
theorem setL {L l : Addr} {b : Heap} {m : Str → Option Value} {items : Array Value} {k : Int} {t : Tok} {v : Value} {Q : Unit → Shared → Prop} (X : LS b L l s.heap m items) (h0 : 0 ≤ k) (hk : k < items.size) (hz : items.size ≤ 1000)
    (h : ∀ h', LS b L l h' m (items.setIfInBounds k.toNat v) → (∀ c o, c ≠ l → s.heap.get? c = some o → h'.get? c = some o) → Q () { s with heap := h' }) : wpAny (model prog w) A (setItem (.ref l) (.int k t) v) Q E s := by
  obtain ⟨n, ho⟩ := X.hl
  have hs := Heap.SameBut.update s.heap l (Obj.mapSeq (·.setIfInBounds k.toNat v))
  exact ki_setAt ho h0 (by omega) hk (h _ (X.turned ⟨_, get?_update_seq ho (·.setIfInBounds k.toNat v)⟩ fun a o ha e => hs.extBut a o ha e) fun c o hc e => hs.extBut c o hc e)

local macro_rules | `(tactic| walk_at "ld") => `(tactic| ((with_reducible refine' ldL (by assumption) ?mv ?_ ?mk ?ml ?md); (case mv => first | exact rfl | assumption); (case mk => exact rfl); (case ml => exact rfl); (case md => decide)))
local macro_rules | `(tactic| walk_at "st") => `(tactic| ((with_reducible refine stL (by assumption) ?_ ?mk ?ml); (case mk => exact rfl); (case ml => exact rfl)))

theorem fdiv_two {n : Nat} (h : 0 < n) : ((n : Int) - 1).fdiv (2 ^ (1 : Int).toNat) = (((n - 1) / 2 : Nat) : Int) := by
  have e : ((n : Int) - 1) = ((n - 1 : Nat) : Int) := by omega
  rw [e]
  show (((n - 1 : Nat) : Int)).fdiv 2 = _
  rw [Int.fdiv_eq_ediv_of_nonneg _ (by omega)]
  omega

theorem ent_ltV {ent : Value → Ent} {v u : Value} {Q : Value → Shared → Prop} (hu : A.units < cLine) (hv : ∃ a, v = .ref a ∧ IsEnt s.heap a (ent v)) (hw : ∃ a, u = .ref a ∧ IsEnt s.heap a (ent u)) (h : Q (.bool (ltV ent v u)) s) :
    wpAny (model prog w) A (compareOp .Lt v u) Q E s := by
  obtain ⟨a, rfl, i⟩ := hv
  obtain ⟨b, rfl, j⟩ := hw
  exact ent_lt hu i j h
theorem getD_mem {xs : Array Value} {i : Nat} (h : i < xs.size) : xs.getD i .none ∈ xs.toList := by
  have : xs.getD i .none = xs[i] := by simp [Array.getD, h]
  rw [this]; simp
theorem mem_set {xs : Array Value} {i : Nat} {v u : Value} (h : u ∈ (xs.setIfInBounds i v).toList) : u = v ∨ u ∈ xs.toList := by
  rw [Array.toList_setIfInBounds] at h
  rcases List.mem_or_eq_of_mem_set h with h | h
  · exact .inr h
  · exact .inl h

theorem siftdown_spec {l : Addr} {xs : Array Value} {st ps : Nat} {t1 t2 : Tok} {ent : Value → Ent} {Q : Value → Shared → Prop} (G : Gd w mg mb g) (St : ∀ b o, g.get? b = some o → s.heap.get? b = some o) (hgl : g.get? l = none)
    (hroom : A.depth < recursionLimit) (hu : A.units + 3 < cLine) (hl : s.heap.PlainList l xs) (he : Ents s.heap ent xs.toList) (hps : ps < xs.size) (hbig : xs.size ≤ 1000)
    (h : ∀ h' tk, h'.PlainList l (sdownA (ltV ent) (xs.getD ps .none) st ps ps xs) → (∀ b o, b ≠ l → s.heap.get? b = some o → h'.get? b = some o) → Q .none { s with heap := h', toks := tk }) :
    wpAny (model prog w) A (call (.ref 79) [.ref l, .int st t1, .int ps t2]) Q E s := by
  refine' callM (a := 79) (binds := [(Str.ofString "heap", .ref l), (Str.ofString "startpos", .int st t1), (Str.ofString "pos", .int ps t2)]) G St hgl hl ?ho ?hcd hroom ?hb ?hc ?hl ?c1 ?c2 ?c3 ?_
  case ho => exact rfl
  case hcd => kernel_rfl
  case hb => exact rfl
  case hc => decide
  case hl => exact locs rfl
  case c1 => exact rfl
  case c2 => exact rfl
  case c3 => exact rfl
  intro h₁ L G₁ F hlL hl₁ hk₁
  have X : LS (s.heap.hide l) L l h₁ _ xs := ⟨F, hl₁, hlL, Heap.hide_self _ _⟩
  have hback : ∀ {h' : Heap} {m' : Str → Option Value} {items' : Array Value}, LS (s.heap.hide l) L l h' m' items' → ∀ b o, b ≠ l → s.heap.get? b = some o → h'.get? b = some o :=
    fun X' b o hb e => X'.F.keep b o ((Heap.hide_ne _ hb).trans e)
  iterate 5 walk_at "1"
  refine item_n X.hl (by omega) (by omega) (getD_some (i := ps) (by simpa using hps)) ?_
  walk_at "st"
  intro h₂ X₂ _
  dsimp only
  walk_at "1"
  -- the loop
  refine wpAny_While (codeAny_whileLoop (fun n s' => ∃ (h' : Heap) (tk : Nat) (ys : Array Value) (m : Str → Option Value) (u : Tok), s' = { s with heap := h', toks := tk } ∧ LS (s.heap.hide l) L l h' m ys ∧ ys.size = xs.size ∧ n < xs.size ∧
      (∀ v ∈ ys.toList, v ∈ xs.toList) ∧ m (Str.ofString "heap") = some (.ref l) ∧ m (Str.ofString "startpos") = some (.int st t1) ∧ m (Str.ofString "pos") = some (.int (n : Int) u) ∧ m (Str.ofString "newitem") = some (xs.getD ps .none) ∧
      sdownA (ltV ent) (xs.getD ps .none) st n n ys = sdownA (ltV ent) (xs.getD ps .none) st ps ps xs) ?turn ps ?start)
  case start => exact ⟨h₂, _, xs, _, t2, rfl, X₂, rfl, hps, fun _ hv => hv, rfl, rfl, rfl, rfl, rfl⟩
  rintro n s' ⟨h', tk, ys, m, u, rfl, X', hsz, hn, hmem, e1, e2, e3, e4, e5⟩
  walk_at "go"
  have hin : Ents h' ent ys.toList := (he.sub hmem).keeps hl (hback X')
  by_cases hlt : st < n
  · rw [if_pos (by simpa using hlt)]
    have hpl : (n - 1) / 2 < ys.size := by omega
    have hnl : n < ys.size := by omega
    walk_at "go"
    refine rshift_int (by decide) ?_
    rw [fdiv_two (by omega)]
    walk_at "st"
    intro h₃ X₃ k₃
    dsimp only
    walk_at "go"
    refine item_n X₃.hl (by omega) (by omega) (getD_some (i := (n - 1) / 2) (by simpa using hpl)) ?_
    walk_at "st"
    intro h₄ X₄ k₄
    dsimp only
    walk_at "go"
    have hin4 : Ents h₄ ent xs.toList := he.keeps hl (hback X₄)
    refine ent_ltV hu (hin4 _ (getD_mem hps)) (hin4 _ (hmem _ (getD_mem hpl))) ?_
    walk_at "go"
    by_cases hc : ltV ent (xs.getD ps .none) (ys.getD ((n - 1) / 2) .none) = true
    · rw [if_pos hc]
      walk_at "go"
      refine setL X₄ (by omega) (by omega) (by omega) ?_
      intro h₅ X₅ k₅
      walk_at "go"
      walk_at "st"
      intro h₆ X₆ k₆
      walk_at "go"
      refine ⟨(n - 1) / 2, by omega, h₆, _, _, _, _, rfl, X₆, by simp [hsz], by omega, ?_, e1, e2, rfl, e4, ?_⟩
      · intro v hv
        rcases mem_set hv with rfl | hv
        · exact hmem _ (getD_mem hpl)
        · exact hmem _ hv
      · rw [← e5, sdownA_step hlt, if_pos hc]
        rfl
    · rw [if_neg hc]
      walk_at "go"
      refine setL X₄ (by omega) (by omega) (by omega) ?_
      intro h₅ X₅ k₅
      walk_at "go"
      refine h h₅ _ ?_ (hback X₅)
      rw [← e5, sdownA_step hlt, if_neg hc]
      exact X₅.hl
  · rw [if_neg (by simpa using hlt)]
    walk_at "go"
    refine setL X' (by omega) (by omega) (by omega) ?_
    intro h₅ X₅ k₅
    walk_at "go"
    refine h h₅ _ ?_ (hback X₅)
    rw [← e5, sdownA_stop hlt]
    exact X₅.hl
end
end Mine
end P_Sift

/-! Siftu -/
section P_Siftu
open PySem PySem.W PySem.Calls PyProof.Rows
namespace Mine
local macro_rules | `(tactic| walk_at "ld") => `(tactic| ((with_reducible refine' ld (by assumption) ?mv ?_ ?mk ?ml ?md); (case mv => exact rfl); (case mk => exact rfl); (case ml => exact rfl); (case md => decide)))
local macro_rules | `(tactic| walk_at "st") => `(tactic| ((with_reducible refine stN (by assumption) (by assumption) ?_ ?mk ?ml); (case mk => exact rfl); (case ml => exact rfl)))
local macro_rules | `(tactic| walk_at "1") => `(tactic| first
  | with_reducible refine wpAny_execs_cons ?_
  | with_reducible refine wpAny_execs_nil ?_
  | with_reducible refine wpAny_Return_some ?_
  | with_reducible refine wpAny_If ?_
  | with_reducible refine wpAny_BinOp ?_
  | (with_reducible refine Constant_str ?_; try dsimp only)
  | (with_reducible refine wpAny_Constant_int ?_; try dsimp only)
  | with_reducible refine Subscript_ ?_
  | with_reducible refine isTrue_not ?_
  | with_reducible refine isTrue_and ?_
  | with_reducible refine isTrue_and_nil ?_
  | ((with_reducible refine wpAny_isTrue_Compare1 ?_ ?mh); (case mh => exact rfl))
  | ((with_reducible refine wpAny_Compare1 ?_ ?mh); (case mh => exact rfl))
  | ((with_reducible refine wpAny_Assign_Name ?_ ?mh); (case mh => exact rfl))
  | ((with_reducible refine wpAny_Assign_Subscript ?_ ?mh); (case mh => exact rfl))
  | walk_at "ld"
  | ((with_reducible refine isTrue_plain ?_ ?mh); (case mh => exact rfl))
  | ((with_reducible refine mcallN ?_ ?mh ?mi); (case mh => exact rfl); (case mi => exact rfl))
  | ((with_reducible refine mcallC ?_ ?mh ?mi); (case mh => exact rfl); (case mi => exact rfl))
  | ((with_reducible refine mcallF ?_ ?mh ?mi); (case mh => exact rfl); (case mi => exact rfl))
  | with_reducible refine wpAny_truthy_bool ?_
  | (with_reducible refine PyProof.Rows.add_int ?_; try dsimp only)
  | (with_reducible refine PyProof.Rows.sub_int ?_; try dsimp only)
  | with_reducible refine PyProof.Rows.gt_int ?_
  | with_reducible refine PyProof.Rows.lt_int ?_
  | with_reducible refine PyProof.Rows.eq_int ?_
  | with_reducible refine PyProof.Rows.ne_int ?_
  | with_reducible refine isTrue_and ?_
  | with_reducible refine isTrue_and_nil ?_
  | ((with_reducible refine wpAny_Expr_any ?_ ?mh ?mi); (case mh => exact rfl); (case mi => exact rfl))
  | (with_reducible refine PyProof.Rows.mul_int ?_ (IntMulOk.of_left (by decide)); try dsimp only)
  | with_reducible refine wpAny_Break ?_
  | with_reducible refine wpAny_Continue ?_)
local macro_rules | `(tactic| walk_at "go") => `(tactic| repeat walk_at "1")
local macro_rules | `(tactic| walk_at "ld") => `(tactic| ((with_reducible refine' ldL (by assumption) ?mv ?_ ?mk ?ml ?md); (case mv => first | exact rfl | assumption); (case mk => exact rfl); (case ml => exact rfl); (case md => decide)))
local macro_rules | `(tactic| walk_at "st") => `(tactic| ((with_reducible refine stL (by assumption) ?_ ?mk ?ml); (case mk => exact rfl); (case ml => exact rfl)))

/-- _siftup, its loop: the place where it ends, and the list -/
def supA (lt : Value → Value → Bool) (e : Nat) : Nat → Nat → Array Value → Nat × Array Value
  | 0, pos, xs => (pos, xs)
  | f + 1, pos, xs => if 2 * pos + 1 < e then
      (if 2 * pos + 2 < e ∧ lt (xs.getD (2 * pos + 1) .none) (xs.getD (2 * pos + 2) .none) = false then supA lt e f (2 * pos + 2) (xs.setIfInBounds pos (xs.getD (2 * pos + 2) .none))
       else supA lt e f (2 * pos + 1) (xs.setIfInBounds pos (xs.getD (2 * pos + 1) .none)))
    else (pos, xs)
theorem supA_stop {lt : Value → Value → Bool} {e f pos : Nat} {xs : Array Value} (h : ¬ 2 * pos + 1 < e) : supA lt e f pos xs = (pos, xs) := by
  cases f with
  | zero => rfl
  | succ f => unfold supA; rw [if_neg h]
theorem supA_fuel {lt : Value → Value → Bool} {e : Nat} : ∀ (f f' pos : Nat) (xs : Array Value), e - pos ≤ f → e - pos ≤ f' → supA lt e f pos xs = supA lt e f' pos xs
  | 0, f', pos, xs, h, _ => by rw [supA_stop (by omega), supA_stop (by omega)]
  | f + 1, 0, pos, xs, _, h => by rw [supA_stop (by omega), supA_stop (by omega)]
  | f + 1, f' + 1, pos, xs, h, h' => by
    unfold supA
    by_cases hlt : 2 * pos + 1 < e
    · rw [if_pos hlt, if_pos hlt]
      split
      · exact supA_fuel f f' _ _ (by omega) (by omega)
      · exact supA_fuel f f' _ _ (by omega) (by omega)
    · rw [if_neg hlt, if_neg hlt]
theorem supA_step {lt : Value → Value → Bool} {e n : Nat} {xs : Array Value} (h : 2 * n + 1 < e) : supA lt e (e - n) n xs =
    if 2 * n + 2 < e ∧ lt (xs.getD (2 * n + 1) .none) (xs.getD (2 * n + 2) .none) = false then supA lt e (e - (2 * n + 2)) (2 * n + 2) (xs.setIfInBounds n (xs.getD (2 * n + 2) .none))
    else supA lt e (e - (2 * n + 1)) (2 * n + 1) (xs.setIfInBounds n (xs.getD (2 * n + 1) .none)) := by
  obtain ⟨k, hk⟩ : ∃ k, e - n = k + 1 := ⟨e - n - 1, by omega⟩
  rw [hk]
  conv => lhs; unfold supA
  rw [if_pos h]
  split
  · exact supA_fuel _ _ _ _ (by omega) (Nat.le_refl _)
  · exact supA_fuel _ _ _ _ (by omega) (Nat.le_refl _)
def siftupA (lt : Value → Value → Bool) (xs : Array Value) (ps : Nat) : Array Value :=
  sdownA lt (((supA lt xs.size (xs.size - ps) ps xs).2.setIfInBounds (supA lt xs.size (xs.size - ps) ps xs).1 (xs.getD ps .none)).getD (supA lt xs.size (xs.size - ps) ps xs).1 .none) ps
    (supA lt xs.size (xs.size - ps) ps xs).1 (supA lt xs.size (xs.size - ps) ps xs).1 ((supA lt xs.size (xs.size - ps) ps xs).2.setIfInBounds (supA lt xs.size (xs.size - ps) ps xs).1 (xs.getD ps .none))

section
variable {prog : Program} {w : World} {A : Around} {E : Value → Shared → Prop} {s : Shared} {mg mb : Str → Option Value} {g : Heap}

theorem int_eq {a b : Int} {u : Tok} (h : a = b) : some (Value.int a u) = some (Value.int b u) := by rw [h]
theorem siftup_spec {l : Addr} {xs : Array Value} {ps : Nat} {t2 : Tok} {ent : Value → Ent} {Q : Value → Shared → Prop} (G : Gd w mg mb g) (St : ∀ b o, g.get? b = some o → s.heap.get? b = some o) (hgl : g.get? l = none)
    (hroom : A.depth + 1 < recursionLimit) (hu : A.units + 6 < cLine) (hl : s.heap.PlainList l xs) (he : Ents s.heap ent xs.toList) (hps : ps < xs.size) (hbig : xs.size ≤ 1000)
    (h : ∀ h' tk, h'.PlainList l (siftupA (ltV ent) xs ps) → (∀ b o, b ≠ l → s.heap.get? b = some o → h'.get? b = some o) → Q .none { s with heap := h', toks := tk }) :
    wpAny (model prog w) A (call (.ref 86) [.ref l, .int ps t2]) Q E s := by
  refine' callM (a := 86) (binds := [(Str.ofString "heap", .ref l), (Str.ofString "pos", .int ps t2)]) G St hgl hl ?ho ?hcd (by omega) ?hb ?hc ?hl ?c1 ?c2 ?c3 ?_
  case ho => exact rfl
  case hcd => kernel_rfl
  case hb => exact rfl
  case hc => decide
  case hl => exact locs rfl
  case c1 => exact rfl
  case c2 => exact rfl
  case c3 => exact rfl
  intro h₁ L G₁ F hlL hl₁ hk₁
  have X : LS (s.heap.hide l) L l h₁ _ xs := ⟨F, hl₁, hlL, Heap.hide_self _ _⟩
  have hback : ∀ {h' : Heap} {m' : Str → Option Value} {items' : Array Value}, LS (s.heap.hide l) L l h' m' items' → ∀ b o, b ≠ l → s.heap.get? b = some o → h'.get? b = some o :=
    fun X' b o hb e => X'.F.keep b o ((Heap.hide_ne _ hb).trans e)
  walk_at "go"
  refine cblt (mb := mb) (G₁.g.keeps X.F.keep) (G₁.b.keeps X.F.keep) G₁.len (arg1 ?_)
  walk_at "go"
  refine call_len_list X.hl.isList (by omega) ?_
  dsimp only
  walk_at "st"
  intro h₂ X₂ k₂
  walk_at "go"
  walk_at "st"
  intro h₃ X₃ k₃
  walk_at "go"
  refine item_n X₃.hl (by omega) (by omega) (getD_some (i := ps) (by simpa using hps)) ?_
  walk_at "st"
  intro h₄ X₄ k₄
  walk_at "go"
  walk_at "st"
  intro h₅ X₅ k₅
  walk_at "go"
  refine wpAny_While (codeAny_whileLoop (fun k s' => ∃ (h' : Heap) (tk : Nat) (ys : Array Value) (m : Str → Option Value) (n : Nat) (u u' te : Tok), s' = { s with heap := h', toks := tk } ∧ LS (s.heap.hide l) L l h' m ys ∧ ys.size = xs.size ∧ n < xs.size ∧ k = xs.size - n ∧
      (∀ v ∈ ys.toList, v ∈ xs.toList) ∧ m (Str.ofString "heap") = some (.ref l) ∧ m (Str.ofString "endpos") = some (.int (xs.size : Int) te) ∧ m (Str.ofString "startpos") = some (.int ps t2) ∧ m (Str.ofString "pos") = some (.int (n : Int) u) ∧
      m (Str.ofString "newitem") = some (xs.getD ps .none) ∧ m (Str.ofString "childpos") = some (.int (2 * (n : Int) + 1) u') ∧
      supA (ltV ent) xs.size (xs.size - n) n ys = supA (ltV ent) xs.size (xs.size - ps) ps xs) ?turn (xs.size - ps) ?start)
  case start => exact ⟨h₅, _, xs, _, ps, _, _, _, rfl, X₅, rfl, hps, rfl, fun _ hv => hv, rfl, rfl, rfl, rfl, rfl, rfl, rfl⟩
  rintro k s' ⟨h', tk, ys, m, n, u, u', te, rfl, X', hsz, hn, rfl, hmem, e1, e2, e3, e4, e5, e6, e7⟩
  walk_at "go"
  by_cases hlt : 2 * n + 1 < xs.size
  · rw [if_pos (by rw [decide_eq_true_eq]; omega)]
    walk_at "go"
    walk_at "st"
    intro h₆ X₆ k₆
    dsimp only
    walk_at "1"
    have hc1 : 2 * n + 1 < ys.size := by omega
    refine wpAny_mono (Q := fun f s' => f = .next ∧ ∃ (h₇ : Heap) (tk₇ : Nat) (m₇ : Str → Option Value) (c : Nat) (u₇ : Tok), s' = { s with heap := h₇, toks := tk₇ } ∧ LS (s.heap.hide l) L l h₇ m₇ ys ∧ n < c ∧ c < xs.size ∧
        m₇ (Str.ofString "heap") = some (.ref l) ∧ m₇ (Str.ofString "endpos") = some (.int (xs.size : Int) te) ∧ m₇ (Str.ofString "startpos") = some (.int ps t2) ∧ m₇ (Str.ofString "pos") = some (.int (n : Int) u) ∧
        m₇ (Str.ofString "newitem") = some (xs.getD ps .none) ∧ m₇ (Str.ofString "childpos") = some (.int (c : Int) u₇) ∧
        supA (ltV ent) xs.size (xs.size - c) c (ys.setIfInBounds n (ys.getD c .none)) = supA (ltV ent) xs.size (xs.size - ps) ps xs) ?iff ?rest (fun _ _ x => x)
    case iff =>
      walk_at "go"
      by_cases hr : 2 * n + 2 < xs.size
      · have hc2 : 2 * n + 2 < ys.size := by omega
        refine ite_pos (by rw [decide_eq_true_eq]; omega) ?_
        walk_at "go"
        refine item_n X₆.hl (by omega) (by omega) (x := ys.getD (2 * n + 1) .none) (by rw [← getD_some hc1]; congr 1) ?_
        walk_at "go"
        refine item_n X₆.hl (by omega) (by omega) (x := ys.getD (2 * n + 2) .none) (by rw [← getD_some hc2]; congr 1) ?_
        have hin6 : Ents h₆ ent xs.toList := he.keeps hl (hback X₆)
        refine ent_ltV (by show A.units + 3 < _; omega) (hin6 _ (hmem _ (getD_mem hc1))) (hin6 _ (hmem _ (getD_mem hc2))) ?_
        walk_at "go"
        cases hc : ltV ent (ys.getD (2 * n + 1) .none) (ys.getD (2 * n + 2) .none) with
        | false =>
          refine ite_pos (by rfl) ?_
          walk_at "go"
          refine ite_pos (by rfl) ?_
          walk_at "go"
          walk_at "st"
          intro h₇ X₇ k₇
          walk_at "go"
          refine ⟨rfl, h₇, _, _, 2 * n + 2, tk + 1, rfl, X₇, by omega, hr, e1, e2, e3, e4, e5, int_eq (by omega), ?_⟩
          rw [← e7, supA_step hlt, if_pos ⟨hr, hc⟩]
        | true =>
          refine ite_neg (by decide) ?_
          refine ite_neg (by decide) ?_
          walk_at "go"
          refine ⟨rfl, h₆, _, _, 2 * n + 1, _, rfl, X₆, by omega, hlt, e1, e2, e3, e4, e5, e6, ?_⟩
          rw [← e7, supA_step hlt, if_neg (by rw [hc]; intro x; exact absurd x.2 (by decide))]
      · refine ite_neg (by rw [decide_eq_true_eq]; omega) ?_
        refine ite_neg (by decide) ?_
        walk_at "go"
        refine ⟨rfl, h₆, _, _, 2 * n + 1, _, rfl, X₆, by omega, hlt, e1, e2, e3, e4, e5, e6, ?_⟩
        rw [← e7, supA_step hlt, if_neg (fun x => hr x.1)]
    case rest =>
      rintro f s' ⟨rfl, h₇, tk₇, m₇, c, u₇, rfl, X₇, hnc, hcx, f1, f2, f3, f4, f5, f6, f7⟩
      have hcy : c < ys.size := by omega
      dsimp only
      walk_at "go"
      refine item_n X₇.hl (by omega) (by omega) (x := ys.getD c .none) (by rw [← getD_some hcy]; congr 1) ?_
      walk_at "go"
      refine setL X₇ (by omega) (by omega) (by omega) ?_
      intro h₈ X₈ k₈
      walk_at "go"
      walk_at "st"
      intro h₉ X₉ k₉
      walk_at "go"
      walk_at "st"
      intro h₁₀ X₁₀ k₁₀
      walk_at "go"
      refine ⟨xs.size - c, by omega, h₁₀, _, _, _, c, _, _, _, rfl, X₁₀, by simp [hsz], hcx, rfl, ?_, f1, f2, f3, rfl, f5, rfl, f7⟩
      intro v hv
      rcases mem_set hv with rfl | hv
      · exact hmem _ (getD_mem hcy)
      · exact hmem _ hv
  · rw [if_neg (by rw [decide_eq_true_eq]; omega)]
    walk_at "go"
    refine setL X' (by omega) (by omega) (by omega) ?_
    intro h₆ X₆ k₆
    walk_at "go"
    refine cdef (w := w) (G₁.g.keeps X₆.F.keep) G₁.siftdown (by kernel_rfl) (arg3 ?_)
    walk_at "go"
    refine ⟨G₁.K.keeps X₆.F.keep, ?_⟩
    have er : supA (ltV ent) xs.size (xs.size - ps) ps xs = (n, ys) := by rw [← e7, supA_stop hlt]
    have hin6 : Ents h₆ ent (ys.setIfInBounds n (xs.getD ps .none)).toList := by
      refine (he.sub fun v hv => ?_).keeps hl (hback X₆)
      rcases mem_set hv with rfl | hv
      · exact getD_mem hps
      · exact hmem _ hv
    refine siftdown_spec (ent := ent) G₁ X₆.F.keep X₆.free (by show A.depth + 1 < _; exact hroom) (by show A.units + 3 + 3 < _; omega) X₆.hl hin6 (by simp; omega) (by simp; omega) ?_
    intro h₇ tk₇ hl₇ hk₇
    dsimp only
    walk_at "go"
    refine h h₇ tk₇ ?_ ?_
    · unfold siftupA
      rw [er]
      exact hl₇
    · intro b o hb e
      exact hk₇ b o hb (hback X₆ b o hb e)
end
end Mine
end P_Siftu

/-! Heap0 -/
section P_Heap0
open PySem PySem.W PySem.Calls PyProof.Rows
namespace Mine
local macro_rules | `(tactic| walk_at "ld") => `(tactic| ((with_reducible refine' ld (by assumption) ?mv ?_ ?mk ?ml ?md); (case mv => exact rfl); (case mk => exact rfl); (case ml => exact rfl); (case md => decide)))
local macro_rules | `(tactic| walk_at "st") => `(tactic| ((with_reducible refine stN (by assumption) (by assumption) ?_ ?mk ?ml); (case mk => exact rfl); (case ml => exact rfl)))
local macro_rules | `(tactic| walk_at "1") => `(tactic| first
  | with_reducible refine wpAny_execs_cons ?_
  | with_reducible refine wpAny_execs_nil ?_
  | with_reducible refine wpAny_Return_some ?_
  | with_reducible refine wpAny_If ?_
  | with_reducible refine wpAny_BinOp ?_
  | (with_reducible refine Constant_str ?_; try dsimp only)
  | (with_reducible refine wpAny_Constant_int ?_; try dsimp only)
  | with_reducible refine Subscript_ ?_
  | with_reducible refine isTrue_not ?_
  | with_reducible refine isTrue_and ?_
  | with_reducible refine isTrue_and_nil ?_
  | ((with_reducible refine wpAny_isTrue_Compare1 ?_ ?mh); (case mh => exact rfl))
  | ((with_reducible refine wpAny_Compare1 ?_ ?mh); (case mh => exact rfl))
  | ((with_reducible refine wpAny_Assign_Name ?_ ?mh); (case mh => exact rfl))
  | ((with_reducible refine wpAny_Assign_Subscript ?_ ?mh); (case mh => exact rfl))
  | walk_at "ld"
  | ((with_reducible refine isTrue_plain ?_ ?mh); (case mh => exact rfl))
  | ((with_reducible refine mcallN ?_ ?mh ?mi); (case mh => exact rfl); (case mi => exact rfl))
  | ((with_reducible refine mcallC ?_ ?mh ?mi); (case mh => exact rfl); (case mi => exact rfl))
  | ((with_reducible refine mcallF ?_ ?mh ?mi); (case mh => exact rfl); (case mi => exact rfl))
  | with_reducible refine wpAny_truthy_bool ?_
  | (with_reducible refine PyProof.Rows.add_int ?_; try dsimp only)
  | (with_reducible refine PyProof.Rows.sub_int ?_; try dsimp only)
  | with_reducible refine PyProof.Rows.gt_int ?_
  | with_reducible refine PyProof.Rows.lt_int ?_
  | with_reducible refine PyProof.Rows.eq_int ?_
  | with_reducible refine PyProof.Rows.ne_int ?_
  | with_reducible refine isTrue_and ?_
  | with_reducible refine isTrue_and_nil ?_
  | ((with_reducible refine wpAny_Expr_any ?_ ?mh ?mi); (case mh => exact rfl); (case mi => exact rfl))
  | (with_reducible refine PyProof.Rows.mul_int ?_ (IntMulOk.of_left (by decide)); try dsimp only)
  | with_reducible refine wpAny_Break ?_
  | with_reducible refine wpAny_Continue ?_)
local macro_rules | `(tactic| walk_at "go") => `(tactic| repeat walk_at "1")
local macro_rules | `(tactic| walk_at "ld") => `(tactic| ((with_reducible refine' ldL (by assumption) ?mv ?_ ?mk ?ml ?md); (case mv => first | exact rfl | assumption); (case mk => exact rfl); (case ml => exact rfl); (case md => decide)))
local macro_rules | `(tactic| walk_at "st") => `(tactic| ((with_reducible refine stL (by assumption) ?_ ?mk ?ml); (case mk => exact rfl); (case ml => exact rfl)))

theorem pop_eq (xs : Array Value) (h : 0 < xs.size) : xs.eraseIdxIfInBounds (xs.size - 1) = xs.pop := by
  apply Array.toList_inj.mp
  have hlt : xs.size - 1 < xs.size := by omega
  simp only [Array.eraseIdxIfInBounds, hlt, dif_pos, Array.toList_eraseIdx, Array.toList_pop]
  rw [List.eraseIdx_eq_dropLast]
  simp; omega

theorem sdownA_size {lt : Value → Value → Bool} {nv : Value} {st : Nat} : ∀ (f pos : Nat) (xs : Array Value), (sdownA lt nv st f pos xs).size = xs.size
  | 0, pos, xs => by simp [sdownA]
  | f + 1, pos, xs => by
    unfold sdownA
    split
    · split
      · rw [sdownA_size f]; simp
      · simp
    · simp
theorem supA_size {lt : Value → Value → Bool} {e : Nat} : ∀ (f pos : Nat) (xs : Array Value), (supA lt e f pos xs).2.size = xs.size
  | 0, pos, xs => by simp [supA]
  | f + 1, pos, xs => by
    unfold supA
    split
    · split
      · rw [supA_size f]; simp
      · rw [supA_size f]; simp
    · simp
theorem siftupA_size {lt : Value → Value → Bool} {xs : Array Value} {ps : Nat} : (siftupA lt xs ps).size = xs.size := by
  unfold siftupA
  rw [sdownA_size, Array.size_setIfInBounds, supA_size]
theorem supA_mem {lt : Value → Value → Bool} {e : Nat} : ∀ (f pos : Nat) (xs : Array Value), e ≤ xs.size → ∀ v ∈ (supA lt e f pos xs).2.toList, v ∈ xs.toList
  | 0, pos, xs, _ => by simp [supA]
  | f + 1, pos, xs, he => by
    intro v hv
    unfold supA at hv
    split at hv
    · split at hv
      · rename_i h1 h2
        rcases mem_set (supA_mem f _ _ (by simpa using he) v hv) with rfl | hv
        · exact getD_mem (by omega)
        · exact hv
      · rename_i h1 h2
        rcases mem_set (supA_mem f _ _ (by simpa using he) v hv) with rfl | hv
        · exact getD_mem (by omega)
        · exact hv
    · exact hv
theorem supA_pos {lt : Value → Value → Bool} {e : Nat} : ∀ (f pos : Nat) (xs : Array Value), pos < e → (supA lt e f pos xs).1 < e
  | 0, pos, xs, h => h
  | f + 1, pos, xs, h => by
    unfold supA
    split
    · split
      · exact supA_pos f _ _ (by omega)
      · exact supA_pos f _ _ (by omega)
    · exact h
theorem sdownA_mem {lt : Value → Value → Bool} {nv : Value} {st : Nat} : ∀ (f pos : Nat) (xs : Array Value), pos < xs.size → ∀ v ∈ (sdownA lt nv st f pos xs).toList, v ∈ xs.toList ∨ v = nv
  | 0, pos, xs, _ => by
    intro v hv
    rcases mem_set (show v ∈ (xs.setIfInBounds pos nv).toList from hv) with rfl | hv
    · exact .inr rfl
    · exact .inl hv
  | f + 1, pos, xs, hp => by
    intro v hv
    unfold sdownA at hv
    split at hv
    · split at hv
      · rcases sdownA_mem f _ _ (by simp; omega) v hv with hv | rfl
        · rcases mem_set hv with rfl | hv
          · exact .inl (getD_mem (by omega))
          · exact .inl hv
        · exact .inr rfl
      · rcases mem_set hv with rfl | hv
        · exact .inr rfl
        · exact .inl hv
    · rcases mem_set hv with rfl | hv
      · exact .inr rfl
      · exact .inl hv
theorem siftupA_mem {lt : Value → Value → Bool} {xs : Array Value} {ps : Nat} (h : ps < xs.size) : ∀ v ∈ (siftupA lt xs ps).toList, v ∈ xs.toList := by
  intro v hv
  unfold siftupA at hv
  have hp := supA_pos (lt := lt) (xs.size - ps) ps xs h
  have hs := supA_size (lt := lt) (e := xs.size) (xs.size - ps) ps xs
  have key : ∀ u ∈ ((supA lt xs.size (xs.size - ps) ps xs).2.setIfInBounds (supA lt xs.size (xs.size - ps) ps xs).1 (xs.getD ps .none)).toList, u ∈ xs.toList := by
    intro u hu
    rcases mem_set hu with rfl | hu
    · exact getD_mem h
    · exact supA_mem _ _ _ (Nat.le_refl _) u hu
  rcases sdownA_mem _ _ _ (by rw [Array.size_setIfInBounds, hs]; exact hp) v hv with hv | rfl
  · exact key v hv
  · exact key _ (getD_mem (by rw [Array.size_setIfInBounds, hs]; exact hp))

/-- heapify, its loop -/
def heapifyA (lt : Value → Value → Bool) : Nat → Array Value → Array Value
  | 0, xs => xs
  | k + 1, xs => heapifyA lt k (siftupA lt xs k)
/-- heappop of a list of two or more: what it leaves -/
def popA (lt : Value → Value → Bool) (xs : Array Value) : Array Value := siftupA lt (xs.pop.setIfInBounds 0 (xs.getD (xs.size - 1) .none)) 0
/-- heapreplace: what it leaves -/
def replA (lt : Value → Value → Bool) (xs : Array Value) (v : Value) : Array Value := siftupA lt (xs.setIfInBounds 0 v) 0

section
variable {prog : Program} {w : World} {A : Around} {E : Value → Shared → Prop} {s : Shared} {mg mb : Str → Option Value} {g : Heap}

theorem popL {L l : Addr} {b : Heap} {m : Str → Option Value} {items : Array Value} {Q : Value → Shared → Prop} (X : LS b L l s.heap m items) (h0 : 0 < items.size) (hz : items.size ≤ 1000)
    (h : ∀ h', LS b L l h' m items.pop → (∀ c o, c ≠ l → s.heap.get? c = some o → h'.get? c = some o) → Q (items.getD (items.size - 1) .none) { s with heap := h' }) : wpAny (model prog w) A (call (.builtin "list.pop") [.ref l]) Q E s := by
  obtain ⟨n, ho⟩ := X.hl
  have hs := Heap.SameBut.update s.heap l (Obj.mapSeq fun xs => xs.eraseIdxIfInBounds (items.size - 1))
  refine call_meets PySem.F.slot_list_pop ⟨_, ho, rfl⟩ PySem.F.entry_list_pop (PySem.F.args_list_pop_1 _) (PySem.MeetsSeq.list_pop_last l items n _ (getD_some (by omega)) (by rw [sizeLine_eq]; omega)) ⟨ho, ?_⟩
  refine h _ (X.turned ?_ fun a o ha e => hs.extBut a o ha e) fun c o hc e => hs.extBut c o hc e
  have e := get?_update_seq ho (fun xs => xs.eraseIdxIfInBounds (items.size - 1))
  rw [pop_eq items h0] at e
  exact ⟨_, e⟩
theorem meth_pop {l : Addr} {items : Array Value} {pl : Sem Bool} {Q : Value × List Value → Shared → Prop} (hl : s.heap.PlainList l items) (h : Q (.builtin "list.pop", [.ref l]) s) :
    wpAny (model prog w) A (getMethod (.ref l) "pop" pl) Q E s :=
  getMethod_list_of PySem.F.slot_list_pop PySem.F.type_list_pop hl.isList (let ⟨_, e⟩ := hl; ⟨_, e, rfl⟩) h

theorem heappop_spec {l : Addr} {xs : Array Value} {ent : Value → Ent} {Q : Value → Shared → Prop} (G : Gd w mg mb g) (St : ∀ b o, g.get? b = some o → s.heap.get? b = some o) (hgl : g.get? l = none)
    (hroom : A.depth + 2 < recursionLimit) (hu : A.units + 9 < cLine) (hl : s.heap.PlainList l xs) (he : Ents s.heap ent xs.toList) (h2 : 2 ≤ xs.size) (hbig : xs.size ≤ 1000)
    (h : ∀ h' tk, h'.PlainList l (popA (ltV ent) xs) → (∀ b o, b ≠ l → s.heap.get? b = some o → h'.get? b = some o) → Q (xs.getD 0 .none) { s with heap := h', toks := tk }) :
    wpAny (model prog w) A (call (.ref 58) [.ref l]) Q E s := by
  refine' callM (a := 58) (binds := [(Str.ofString "heap", .ref l)]) G St hgl hl ?ho ?hcd (by omega) ?hb ?hc ?hl ?c1 ?c2 ?c3 ?_
  case ho => exact rfl
  case hcd => kernel_rfl
  case hb => exact rfl
  case hc => decide
  case hl => exact locs rfl
  case c1 => exact rfl
  case c2 => exact rfl
  case c3 => exact rfl
  intro h₁ L G₁ F hlL hl₁ hk₁
  have X : LS (s.heap.hide l) L l h₁ _ xs := ⟨F, hl₁, hlL, Heap.hide_self _ _⟩
  have hback : ∀ {h' : Heap} {m' : Str → Option Value} {items' : Array Value}, LS (s.heap.hide l) L l h' m' items' → ∀ b o, b ≠ l → s.heap.get? b = some o → h'.get? b = some o :=
    fun X' b o hb e => X'.F.keep b o ((Heap.hide_ne _ hb).trans e)
  walk_at "go"
  refine meth_pop X.hl ?_
  refine callWith_method0 ?_
  refine popL X (by omega) hbig ?_
  intro h₂ X₂ k₂
  walk_at "st"
  intro h₃ X₃ k₃
  walk_at "go"
  have hpz : xs.pop.size = xs.size - 1 := by simp
  refine wpAny_truthy_list X₃.hl.isList (by omega) ?_
  refine ite_pos (by simp [Array.isEmpty]; omega) ?_
  dsimp only
  walk_at "go"
  refine item_c X₃.hl (by omega) (by omega) (getD_some (i := 0) (by omega)) ?_
  walk_at "st"
  intro h₄ X₄ k₄
  walk_at "go"
  refine setL X₄ (by omega) (by omega) (by omega) ?_
  intro h₅ X₅ k₅
  walk_at "go"
  refine cdef (w := w) (G₁.g.keeps X₅.F.keep) G₁.siftup (by kernel_rfl) (arg2 ?_)
  walk_at "go"
  refine ⟨G₁.K.keeps X₅.F.keep, ?_⟩
  have hin5 : Ents h₅ ent (xs.pop.setIfInBounds 0 (xs.getD (xs.size - 1) .none)).toList := by
    refine (he.sub fun v hv => ?_).keeps hl (hback X₅)
    rcases mem_set hv with rfl | hv
    · exact getD_mem (by omega)
    · rw [Array.toList_pop] at hv; exact (List.dropLast_sublist _).subset hv
  refine siftup_spec (ent := ent) (ps := 0) G₁ X₅.F.keep X₅.free (by show A.depth + 1 + 1 < _; exact hroom) (by show A.units + 3 + 6 < _; omega) X₅.hl hin5 (by simp; omega) (by simp; omega) ?_
  intro h₆ tk₆ hl₆ hk₆
  have X₆ := X₅.turned hl₆ hk₆
  dsimp only
  walk_at "go"
  have e0 : xs.pop.getD 0 .none = xs.getD 0 .none := by
    have : 0 < xs.pop.size := by omega
    simp [Array.getD, show 0 < xs.size by omega, show 0 < xs.size - 1 by omega]
  rw [e0]
  exact h h₆ tk₆ hl₆ (hback X₆)

theorem heapreplace_spec {l : Addr} {xs : Array Value} {v : Value} {ent : Value → Ent} {Q : Value → Shared → Prop} (G : Gd w mg mb g) (St : ∀ b o, g.get? b = some o → s.heap.get? b = some o) (hgl : g.get? l = none)
    (hroom : A.depth + 2 < recursionLimit) (hu : A.units + 9 < cLine) (hl : s.heap.PlainList l xs) (he : Ents s.heap ent xs.toList) (hv : ∃ a, v = .ref a ∧ IsEnt s.heap a (ent v)) (h2 : 1 ≤ xs.size) (hbig : xs.size ≤ 1000)
    (h : ∀ h' tk, h'.PlainList l (replA (ltV ent) xs v) → (∀ b o, b ≠ l → s.heap.get? b = some o → h'.get? b = some o) → Q (xs.getD 0 .none) { s with heap := h', toks := tk }) :
    wpAny (model prog w) A (call (.ref 65) [.ref l, v]) Q E s := by
  refine' callM (a := 65) (binds := [(Str.ofString "heap", .ref l), (Str.ofString "item", v)]) G St hgl hl ?ho ?hcd (by omega) ?hb ?hc ?hl ?c1 ?c2 ?c3 ?_
  case ho => exact rfl
  case hcd => kernel_rfl
  case hb => exact rfl
  case hc => decide
  case hl => exact locs rfl
  case c1 => exact rfl
  case c2 => exact rfl
  case c3 => exact rfl
  intro h₁ L G₁ F hlL hl₁ hk₁
  have X : LS (s.heap.hide l) L l h₁ _ xs := ⟨F, hl₁, hlL, Heap.hide_self _ _⟩
  have hback : ∀ {h' : Heap} {m' : Str → Option Value} {items' : Array Value}, LS (s.heap.hide l) L l h' m' items' → ∀ b o, b ≠ l → s.heap.get? b = some o → h'.get? b = some o :=
    fun X' b o hb e => X'.F.keep b o ((Heap.hide_ne _ hb).trans e)
  walk_at "go"
  refine item_c X.hl (by omega) (by omega) (getD_some (i := 0) (by omega)) ?_
  walk_at "st"
  intro h₄ X₄ k₄
  walk_at "go"
  refine setL X₄ (by omega) (by omega) (by omega) ?_
  intro h₅ X₅ k₅
  walk_at "go"
  refine cdef (w := w) (G₁.g.keeps X₅.F.keep) G₁.siftup (by kernel_rfl) (arg2 ?_)
  walk_at "go"
  refine ⟨G₁.K.keeps X₅.F.keep, ?_⟩
  have hin5 : Ents h₅ ent (xs.setIfInBounds 0 v).toList := by
    intro u hu
    have hb : ∃ a, u = .ref a ∧ IsEnt s.heap a (ent u) := by
      rcases mem_set hu with rfl | hu
      · exact hv
      · exact he u hu
    obtain ⟨a, e, i⟩ := hb
    exact ⟨a, e, i.keeps fun o ho => hback X₅ a o (isEnt_ne i hl) ho⟩
  refine siftup_spec (ent := ent) (ps := 0) G₁ X₅.F.keep X₅.free (by show A.depth + 1 + 1 < _; exact hroom) (by show A.units + 3 + 6 < _; omega) X₅.hl hin5 (by simp; omega) (by simp; omega) ?_
  intro h₆ tk₆ hl₆ hk₆
  have X₆ := X₅.turned hl₆ hk₆
  dsimp only
  walk_at "go"
  exact h h₆ tk₆ hl₆ (hback X₆)
end
end Mine
end P_Heap0

/-! Heapg -/
section P_Heapg
open PySem PySem.W PySem.Calls PyProof.Rows
namespace Mine
local macro_rules | `(tactic| walk_at "ld") => `(tactic| ((with_reducible refine' ld (by assumption) ?mv ?_ ?mk ?ml ?md); (case mv => exact rfl); (case mk => exact rfl); (case ml => exact rfl); (case md => decide)))
local macro_rules | `(tactic| walk_at "st") => `(tactic| ((with_reducible refine stN (by assumption) (by assumption) ?_ ?mk ?ml); (case mk => exact rfl); (case ml => exact rfl)))
local macro_rules | `(tactic| walk_at "1") => `(tactic| first
  | with_reducible refine wpAny_execs_cons ?_
  | with_reducible refine wpAny_execs_nil ?_
  | with_reducible refine wpAny_Return_some ?_
  | with_reducible refine wpAny_If ?_
  | with_reducible refine wpAny_BinOp ?_
  | (with_reducible refine Constant_str ?_; try dsimp only)
  | (with_reducible refine wpAny_Constant_int ?_; try dsimp only)
  | with_reducible refine Subscript_ ?_
  | with_reducible refine isTrue_not ?_
  | with_reducible refine isTrue_and ?_
  | with_reducible refine isTrue_and_nil ?_
  | ((with_reducible refine wpAny_isTrue_Compare1 ?_ ?mh); (case mh => exact rfl))
  | ((with_reducible refine wpAny_Compare1 ?_ ?mh); (case mh => exact rfl))
  | ((with_reducible refine wpAny_Assign_Name ?_ ?mh); (case mh => exact rfl))
  | ((with_reducible refine wpAny_Assign_Subscript ?_ ?mh); (case mh => exact rfl))
  | walk_at "ld"
  | ((with_reducible refine isTrue_plain ?_ ?mh); (case mh => exact rfl))
  | ((with_reducible refine mcallN ?_ ?mh ?mi); (case mh => exact rfl); (case mi => exact rfl))
  | ((with_reducible refine mcallC ?_ ?mh ?mi); (case mh => exact rfl); (case mi => exact rfl))
  | ((with_reducible refine mcallF ?_ ?mh ?mi); (case mh => exact rfl); (case mi => exact rfl))
  | with_reducible refine wpAny_truthy_bool ?_
  | (with_reducible refine PyProof.Rows.add_int ?_; try dsimp only)
  | (with_reducible refine PyProof.Rows.sub_int ?_; try dsimp only)
  | with_reducible refine PyProof.Rows.gt_int ?_
  | with_reducible refine PyProof.Rows.lt_int ?_
  | with_reducible refine PyProof.Rows.eq_int ?_
  | with_reducible refine PyProof.Rows.ne_int ?_
  | with_reducible refine isTrue_and ?_
  | with_reducible refine isTrue_and_nil ?_
  | ((with_reducible refine wpAny_Expr_any ?_ ?mh ?mi); (case mh => exact rfl); (case mi => exact rfl))
  | (with_reducible refine PyProof.Rows.mul_int ?_ (IntMulOk.of_left (by decide)); try dsimp only)
  | with_reducible refine wpAny_Break ?_
  | with_reducible refine wpAny_Continue ?_)
local macro_rules | `(tactic| walk_at "go") => `(tactic| repeat walk_at "1")
local macro_rules | `(tactic| walk_at "ld") => `(tactic| ((with_reducible refine' ldL (by assumption) ?mv ?_ ?mk ?ml ?md); (case mv => first | exact rfl | assumption); (case mk => exact rfl); (case ml => exact rfl); (case md => decide)))
local macro_rules | `(tactic| walk_at "st") => `(tactic| ((with_reducible refine stL (by assumption) ?_ ?mk ?ml); (case mk => exact rfl); (case ml => exact rfl)))

section
variable {prog : Program} {w : World} {A : Around} {E : Value → Shared → Prop} {s : Shared} {mg mb : Str → Option Value} {g : Heap}

theorem sub_ri_reversed : isSubtype (.type "range_iterator") (.type "reversed") = pure false := by rw [isSubtype_type]; kernel_rfl
def riObj (x left step : Int) : Obj := { cls := .type "range_iterator", data := .fields #[rawInt x, rawInt left, rawInt step] }

theorem range_fields {M : Model} {r : Addr} {a b c : Int} {t u v : Tok} {Q : Int × Int × Int → Shared → Prop} (hr : IsRange s.heap r a b c t u v) (h : Q (a, b, c) s) : wpAny M A (Builtin.Range.rangeFields (.ref r)) Q E s := by
  unfold Builtin.Range.rangeFields
  refine wpAny_bind (wpAny_field hr rfl (x := .int a t) rfl ?_)
  refine wpAny_bind (wpAny_of_eq (a := some a) rfl ?_)
  refine wpAny_bind (wpAny_field hr rfl (x := .int b u) rfl ?_)
  refine wpAny_bind (wpAny_of_eq (a := some b) rfl ?_)
  refine wpAny_bind (wpAny_field hr rfl (x := .int c v) rfl ?_)
  refine wpAny_bind (wpAny_of_eq (a := some c) rfl ?_)
  exact wpAny_pure h
theorem fitsLong_small {i : Int} (h1 : -2000 ≤ i) (h2 : i ≤ 2000) : Builtin.Range.rangeFitsLong i = true := by
  unfold Builtin.Range.rangeFitsLong
  rw [Bool.and_eq_true, decide_eq_true_eq, decide_eq_true_eq]
  constructor <;> omega

theorem call_range_reversed {r : Addr} {n : Nat} {t u v : Tok} {Q : Value → Shared → Prop} (hr : IsRange s.heap r 0 (n : Int) 1 t u v) (hn : n ≤ 1000)
    (h : Q (.ref s.heap.objs.size) { s with heap := s.heap.push (riObj ((n : Int) - 1) n (-1)) }) : wpAny (model prog w) A (call (.builtin "range.__reversed__") [.ref r]) Q E s := by
  have hT : s.TypeIs (.ref r) "range" := ⟨_, hr, rfl⟩
  refine wpAny_call_entry F.slot_range_reversed hT F.entry_range_reversed ?_ (F.args_range_reversed_1 _)
  unfold Builtin.«range.__reversed__»
  refine wpAny_bind (wpAny_of_eq (a := Value.ref r) rfl ?_)
  refine wpAny_bind (range_fields hr ?_)
  dsimp only
  have hz : Builtin.Range.rangeSize 0 (n : Int) 1 = n := by rw [rangeSize_one]; split <;> omega
  rw [hz]
  rw [fitsLong_small (i := 0) (by omega) (by omega), fitsLong_small (i := (n : Int)) (by omega) (by omega), fitsLong_small (i := 1) (by omega) (by omega), fitsLong_small (i := -1) (by omega) (by omega), fitsLong_small (i := 0 - 1) (by omega) (by omega)]
  simp only [Bool.and_self, Bool.not_true, Bool.false_eq_true, if_false, if_true]
  refine wpAny_bind (wpAny_newObj_type (wpAny_pure ?_))
  refine ⟨.ref s.heap.objs.size, rfl, ?_⟩
  have e : riObj ((n : Int) - 1) n (-1) = { cls := .type "range_iterator", dict := none, data := .fields [rawInt (0 + ((n : Int) - 1) * 1), rawInt n, rawInt (-1)].toArray } := by
    unfold riObj
    rw [show (0 + ((n : Int) - 1) * 1) = (n : Int) - 1 by omega]
  rw [e] at h
  exact h

theorem code_reversed_range {r : Addr} {n : Nat} {t u v : Tok} {Q₁ : Value → Shared → Prop} (hr : IsRange s.heap r 0 (n : Int) 1 t u v) (hn : n ≤ 1000)
    (h : Q₁ (.ref s.heap.objs.size) { s with heap := s.heap.push (riObj ((n : Int) - 1) n (-1)) }) :
    codeAny (model prog w) A (.call (.builtin "reversed.__new__") ⟨[.type "reversed", .ref r], []⟩) (wants Q₁ E) s := by
  have hT : s.TypeIs (.ref r) "range" := ⟨_, hr, rfl⟩
  refine codeAny_of_tree ?_
  show wpAny _ A.in1 (do checkBuiltinCall "reversed.__new__" ⟨[.type "reversed", .ref r], []⟩; again (.builtin "reversed.__new__" ⟨[.type "reversed", .ref r], []⟩)) _ _ s
  refine wpAny_bind (wpAny_of_eq (PySem.F.newCall_reversed_1 _) (wpAny_pure ⟨plainId_quiet PySem.F.plain_reversed_new _, codeAny_builtin PySem.F.entry_reversed_new ?_⟩))
  rw [Around.under_plainId PySem.F.plain_reversed_new _]
  unfold Builtin.«reversed.__new__»
  refine wpAny_bind (wpAny_of_eq (newClass_reversed _) ?_)
  refine wpAny_bind (wpAny_of_eq (a := ()) (by rfl) ?_)
  refine wpAny_bind (wpAny_of_eq (a := ()) (by rfl) ?_)
  dsimp only
  refine wpAny_bind (wpAny_specialOf hT F.slot_range_reversed.lookup ?_)
  dsimp only
  refine wpAny_bind (wpAny_of_eq (F.slot_range_reversed.bind _) ?_)
  dsimp only
  rw [if_neg (show ¬ ((Value.builtin "range.__reversed__" == Value.none) = true) from Bool.false_ne_true)]
  refine wpAny_bind (wpAny_rule ?_)
  refine wpAny_bind (m := runValue (.call (.builtin "range.__reversed__") ⟨[.ref r], []⟩)) (show wpAny _ _ (call (.builtin "range.__reversed__") [.ref r]) _ _ _ from call_range_reversed hr hn ?_)
  exact wpAny_pure h

theorem call_reversed_range {r : Addr} {n : Nat} {t u v : Tok} {Q : Value → Shared → Prop} (hr : IsRange s.heap r 0 (n : Int) 1 t u v) (hn : n ≤ 1000)
    (h : Q (.ref s.heap.objs.size) { s with heap := s.heap.push (riObj ((n : Int) - 1) n (-1)) }) : wpAny (model prog w) A (call (.type "reversed") [.ref r]) Q E s := by
  refine callType_other (U := "range_iterator") (Q₁ := fun obj s₁ => obj = .ref s.heap.objs.size ∧ s₁ = { s with heap := s.heap.push (riObj ((n : Int) - 1) n (-1)) }) (by decide +kernel) PySem.F.create_reversed ⟨_, _, PySem.F.mro_reversed⟩ PySem.F.made_reversed sub_ri_reversed (PySem.F.typeCall_reversed_1 _) (code_reversed_range hr hn ⟨rfl, rfl⟩) ?_
  rintro obj s₁ ⟨rfl, rfl⟩
  exact ⟨⟨_, Heap.get?_push_size _ rfl, rfl⟩, h⟩

theorem heapifyA_size {lt : Value → Value → Bool} : ∀ (k : Nat) (xs : Array Value), (heapifyA lt k xs).size = xs.size
  | 0, _ => rfl
  | k + 1, xs => by unfold heapifyA; rw [heapifyA_size k, siftupA_size]
theorem fdiv2 (n : Nat) : (n : Int).fdiv 2 = ((n / 2 : Nat) : Int) := by
  rw [Int.fdiv_eq_ediv_of_nonneg _ (by omega)]; omega

theorem rev_iter {b : Heap} {L l : Addr} {m : Str → Option Value} {items : Array Value} {k : Nat} {t : Tok} {Q : Value → Shared → Prop} (hk : k ≤ 1000) (X : LS b L l s.heap m items)
    (h : ∀ h' it tk, LS b L l h' m items → IsRangeIter h' it ((k : Int) - 1) k (-1) → it ≠ L → it ≠ l → b.get? it = none → Q (.ref it) { s with heap := h', toks := tk }) :
    wpAny (model prog w) A (call (.type "range") [.int (k : Int) t]) (fun v s₁ => wpAny (model prog w) A (call (.type "reversed") [v]) (fun x s₂ => wpAny (model prog w) A (pyIter x) Q E s₂) E s₁) E s := by
  refine call_range_1 ?_
  refine call_reversed_range (IsRange.new _ _ _ _ _ _ _) hk ?_
  have hLlt : L < s.heap.objs.size := X.F.ns.lt
  have hllt : l < s.heap.objs.size := let ⟨_, e⟩ := X.hl; Heap.lt_size e
  refine wpAny_pyIter_rangeiter (x := (k : Int) - 1) (left := k) (step := -1) (Heap.get?_push_size _ rfl) ?_
  refine h _ _ _ (X.kept fun _ _ e => Heap.get?_push_of_some _ (Heap.get?_push_of_some _ e)) (Heap.get?_push_size _ rfl) ?_ ?_ ?_
  · rw [Heap.size_push]; exact Nat.ne_of_gt (Nat.lt_succ_of_lt hLlt)
  · rw [Heap.size_push]; exact Nat.ne_of_gt (Nat.lt_succ_of_lt hllt)
  · rw [Heap.size_push]; exact Heap.get?_none_of_le (Nat.le_trans X.F.above (Nat.le_succ_of_le (Nat.le_of_lt hLlt)))

theorem heapify_spec {l : Addr} {xs : Array Value} {ent : Value → Ent} {Q : Value → Shared → Prop} (G : Gd w mg mb g) (St : ∀ b o, g.get? b = some o → s.heap.get? b = some o) (hgl : g.get? l = none) (hh : A.handled = none)
    (hroom : A.depth + 2 < recursionLimit) (hu : A.units + 9 < cLine) (hl : s.heap.PlainList l xs) (he : Ents s.heap ent xs.toList) (hbig : xs.size ≤ 1000)
    (h : ∀ h' tk, h'.PlainList l (heapifyA (ltV ent) (xs.size / 2) xs) → (∀ b o, b ≠ l → s.heap.get? b = some o → h'.get? b = some o) → Q .none { s with heap := h', toks := tk }) :
    wpAny (model prog w) A (call (.ref 72) [.ref l]) Q E s := by
  refine' callM (a := 72) (binds := [(Str.ofString "x", .ref l)]) G St hgl hl ?ho ?hcd (by omega) ?hb ?hc ?hl ?c1 ?c2 ?c3 ?_
  case ho => exact rfl
  case hcd => kernel_rfl
  case hb => exact rfl
  case hc => decide
  case hl => exact locs rfl
  case c1 => exact rfl
  case c2 => exact rfl
  case c3 => exact rfl
  intro h₁ L G₁ F hlL hl₁ hk₁
  have X : LS (s.heap.hide l) L l h₁ _ xs := ⟨F, hl₁, hlL, Heap.hide_self _ _⟩
  have hback : ∀ {h' : Heap} {m' : Str → Option Value} {items' : Array Value}, LS (s.heap.hide l) L l h' m' items' → ∀ b o, b ≠ l → s.heap.get? b = some o → h'.get? b = some o :=
    fun X' b o hb e => X'.F.keep b o ((Heap.hide_ne _ hb).trans e)
  walk_at "go"
  refine cblt (mb := mb) (G₁.g.keeps X.F.keep) (G₁.b.keeps X.F.keep) G₁.len (arg1 ?_)
  walk_at "go"
  refine call_len_list X.hl.isList (by omega) ?_
  dsimp only
  walk_at "st"
  intro h₂ X₂ k₂
  dsimp only
  walk_at "go"
  refine wpAny_For ?_
  refine ctyp (mb := mb) (G₁.g.keeps X₂.F.keep) (G₁.b.keeps X₂.F.keep) G₁.reversed (arg1 ?_)
  refine ctyp (mb := mb) (G₁.g.keeps X₂.F.keep) (G₁.b.keeps X₂.F.keep) G₁.range (arg1 ?_)
  walk_at "go"
  refine floordiv_int (by decide) ?_ (Or.inl (PyProof.noPylong_small (by omega)))
  rw [fdiv2]
  refine rev_iter (by omega) X₂ ?_
  intro h₃ it tk₃ X₃ I₃ hiL hil hif
  refine codeAny_forLoop_any (fun k s' => ∃ (h' : Heap) (tk : Nat) (ys : Array Value) (m : Str → Option Value), s' = { s with heap := h', toks := tk } ∧ LS (s.heap.hide l) L l h' m ys ∧ IsRangeIter h' it ((k : Int) - 1) k (-1) ∧ ys.size = xs.size ∧ k ≤ xs.size / 2 ∧
      (∀ v ∈ ys.toList, v ∈ xs.toList) ∧ m (Str.ofString "x") = some (.ref l) ∧ heapifyA (ltV ent) k ys = heapifyA (ltV ent) (xs.size / 2) xs) ?turn (xs.size / 2) ?start
  case start => exact ⟨h₃, _, xs, _, rfl, X₃, I₃, rfl, Nat.le_refl _, fun _ hv => hv, rfl, rfl⟩
  rintro k s' ⟨h', tk, ys, m, rfl, X', I', hsz, hk, hmem, e1, e2⟩
  cases k with
  | zero =>
    refine wpAny_pyNext_range_end hh I' (by omega) ?_
    intro h₄ x₄
    walk_at "go"
    have hl4 : h₄.PlainList l ys := X'.hl.at fun o e => x₄ l o (Ne.symm hil) e
    refine h h₄ _ ?_ ?_
    · rw [← e2]; exact hl4
    · intro b o hb e
      by_cases hbi : b = it
      · subst hbi
        rw [Heap.hide_ne _ hb, e] at hif
        cases hif
      · exact x₄ b o hbi (hback X' b o hb e)
  | succ k =>
    refine wpAny_pyNext_range_item I' (by omega) ?_
    intro h₄ I₄ s₄
    have X₄ : LS (s.heap.hide l) L l h₄ m ys := ⟨⟨X'.F.ns.sameBut s₄ (Ne.symm hiL), fun b o e => s₄.extBut b o (fun q => by rw [q, hif] at e; cases e) (X'.F.keep b o e), X'.F.above⟩, X'.hl.extBut s₄.extBut (Ne.symm hil), X'.ne, X'.free⟩
    dsimp only
    refine wpAny_pure ?_
    refine wpAny_assign_Name ?_
    walk_at "st"
    intro h₅ X₅ k₅
    have I₅ : IsRangeIter h₅ it (((k + 1 : Nat) : Int) - 1 + -1) (((k + 1 : Nat) : Int) - 1) (-1) := k₅ it _ hiL I₄
    walk_at "go"
    refine cdef (w := w) (G₁.g.keeps X₅.F.keep) G₁.siftup (by kernel_rfl) (arg2 ?_)
    walk_at "go"
    refine ⟨G₁.K.keeps X₅.F.keep, ?_⟩
    have hin5 : Ents h₅ ent ys.toList := (he.sub hmem).keeps hl (hback X₅)
    rw [show (((k + 1 : Nat) : Int) - 1) = (k : Int) by omega]
    refine siftup_spec (ent := ent) (ps := k) G₁ X₅.F.keep X₅.free (by show A.depth + 1 + 1 < _; exact hroom) (by show A.units + 3 + 6 < _; omega) X₅.hl hin5 (by omega) (by omega) ?_
    intro h₆ tk₆ hl₆ hk₆
    have X₆ := X₅.turned hl₆ hk₆
    have I₆ : IsRangeIter h₆ it (((k + 1 : Nat) : Int) - 1 + -1) (((k + 1 : Nat) : Int) - 1) (-1) := hk₆ it _ hil I₅
    dsimp only
    walk_at "go"
    refine ⟨k, by omega, h₆, _, _, _, rfl, X₆, ?_, by rw [siftupA_size, hsz], by omega, ?_, e1, e2⟩
    · rw [show (((k + 1 : Nat) : Int) - 1 + -1) = (k : Int) - 1 by omega, show (((k + 1 : Nat) : Int) - 1) = (k : Int) by omega] at I₆
      exact I₆
    · intro v hv
      exact hmem v (siftupA_mem (by omega) v hv)
end
end Mine
end P_Heapg

/-! Join -/
section P_Join
open PySem PySem.W PySem.Calls PyProof.Rows
namespace Mine
local macro_rules | `(tactic| walk_at "ld") => `(tactic| ((with_reducible refine' ld (by assumption) ?mv ?_ ?mk ?ml ?md); (case mv => exact rfl); (case mk => exact rfl); (case ml => exact rfl); (case md => decide)))
local macro_rules | `(tactic| walk_at "st") => `(tactic| ((with_reducible refine stN (by assumption) (by assumption) ?_ ?mk ?ml); (case mk => exact rfl); (case ml => exact rfl)))
local macro_rules | `(tactic| walk_at "1") => `(tactic| first
  | with_reducible refine wpAny_execs_cons ?_
  | with_reducible refine wpAny_execs_nil ?_
  | with_reducible refine wpAny_Return_some ?_
  | with_reducible refine wpAny_If ?_
  | with_reducible refine wpAny_BinOp ?_
  | (with_reducible refine Constant_str ?_; try dsimp only)
  | (with_reducible refine wpAny_Constant_int ?_; try dsimp only)
  | with_reducible refine Subscript_ ?_
  | with_reducible refine isTrue_not ?_
  | with_reducible refine isTrue_and ?_
  | with_reducible refine isTrue_and_nil ?_
  | ((with_reducible refine wpAny_isTrue_Compare1 ?_ ?mh); (case mh => exact rfl))
  | ((with_reducible refine wpAny_Compare1 ?_ ?mh); (case mh => exact rfl))
  | ((with_reducible refine wpAny_Assign_Name ?_ ?mh); (case mh => exact rfl))
  | ((with_reducible refine wpAny_Assign_Subscript ?_ ?mh); (case mh => exact rfl))
  | walk_at "ld"
  | ((with_reducible refine isTrue_plain ?_ ?mh); (case mh => exact rfl))
  | ((with_reducible refine mcallN ?_ ?mh ?mi); (case mh => exact rfl); (case mi => exact rfl))
  | ((with_reducible refine mcallC ?_ ?mh ?mi); (case mh => exact rfl); (case mi => exact rfl))
  | ((with_reducible refine mcallF ?_ ?mh ?mi); (case mh => exact rfl); (case mi => exact rfl))
  | with_reducible refine wpAny_truthy_bool ?_
  | (with_reducible refine PyProof.Rows.add_int ?_; try dsimp only)
  | (with_reducible refine PyProof.Rows.sub_int ?_; try dsimp only)
  | with_reducible refine PyProof.Rows.gt_int ?_
  | with_reducible refine PyProof.Rows.lt_int ?_
  | with_reducible refine PyProof.Rows.eq_int ?_
  | with_reducible refine PyProof.Rows.ne_int ?_
  | with_reducible refine isTrue_and ?_
  | with_reducible refine isTrue_and_nil ?_
  | ((with_reducible refine wpAny_Expr_any ?_ ?mh ?mi); (case mh => exact rfl); (case mi => exact rfl))
  | (with_reducible refine PyProof.Rows.mul_int ?_ (IntMulOk.of_left (by decide)); try dsimp only)
  | with_reducible refine wpAny_Break ?_
  | with_reducible refine wpAny_Continue ?_)
local macro_rules | `(tactic| walk_at "go") => `(tactic| repeat walk_at "1")

/-- the table of join's code: nothing in it, or the one generator's code -/
def Tb (h : Heap) : Prop := ∃ ps, h.IsCode 42 38 ps ∧ h.TableAt 42 38 ps ∧ (ps = #[] ∨ ∃ c', ps = #[rawInt 5, rawInt 20, Value.ref c'])
theorem Tb.at {h h' : Heap} (x : Tb h) (h1 : ∀ o, h.get? 42 = some o → h'.get? 42 = some o) (h2 : ∀ o, h.get? 38 = some o → h'.get? 38 = some o) : Tb h' := by
  obtain ⟨ps, ⟨o, vs, file, tf, flags, tg, inF, text, tt, op, a, r1, r2, r3, r4, r5, r6, b, r⟩, ⟨⟨o', vs', a', r'⟩, b'⟩, c⟩ := x
  exact ⟨ps, ⟨o, vs, file, tf, flags, tg, inF, text, tt, op, h1 _ a, r1, r2, r3, r4, r5, r6, h2 _ b, r⟩, ⟨⟨o', vs', h1 _ a', r'⟩, h2 _ b'⟩, c⟩
theorem Tb.keeps {h h' : Heap} (x : Tb h) (hk : ∀ b o, h.get? b = some o → h'.get? b = some o) : Tb h' := x.at (hk _) (hk _)

section
variable {prog : Program} {w : World} {A : Around} {E : Value → Shared → Prop} {s : Shared} {mg mb : Str → Option Value} {g : Heap}

theorem gcode {M : Model} {env : Env} {pos : Pos} {qual : Str} {scope : Scope} {Q : Value → Shared → Prop} (hc : env.code = .ref 42) (hl : pos.line = 5) (hco : pos.col = 20) (T : Tb s.heap)
    (h : ∀ c' h' tk, Heap.ExtBut 38 s.heap h' → s.heap.objs.size ≤ h'.objs.size → Tb h' → Q (.ref c') { s with heap := h', toks := tk }) : wpAny M A (genexprCode env pos qual scope) Q E s := by
  obtain ⟨ps, hI, hT, hps⟩ := T
  rcases hps with rfl | ⟨c', rfl⟩
  · refine wpAny_genexprCodeX hc hI hT (by rfl) (fun c' h' tk hx hge hlt hI' _ hT' _ => h c' h' tk hx (Nat.le_trans hge (Nat.le_of_lt hlt)) ⟨_, hI', hT', .inr ⟨c', ?_⟩⟩)
    rw [hl, hco]; rfl
  · have T' : Tb s.heap := ⟨_, hI, hT, .inr ⟨c', rfl⟩⟩
    obtain ⟨o, vs, file, tf, flags, tg, inF, text, tt, op, ho, hd, h11, h2, h7, h9, h10, hop, hpd, htr, hne⟩ := hI
    unfold genexprCode codeAt
    rw [hc, if_neg (show ¬ ((Value.ref 42 == Value.none) = true) from Bool.false_ne_true)]
    refine wpAny_bind (wpAny_fieldsOf ho hd ?_)
    rw [h11]
    refine wpAny_bind (wpAny_fieldsOf hop hpd ?_)
    have e : codeAmong pos (#[rawInt 5, rawInt 20, Value.ref c'] : Array Value).toList = some (.ref c') := by
      show (if ((5 : Int) == (pos.line : Int) && (20 : Int) == (pos.col : Int)) = true then some (Value.ref c') else none) = _
      rw [hl, hco]; rfl
    rw [e]
    exact wpAny_pure (h c' s.heap s.toks (fun _ _ _ e => e) (Nat.le_refl _) T')

theorem join_spec {D : Addr} {x y : Str} {t u : Tok} {Q : Value → Shared → Prop} (G : Gd w mg mb g) (St : ∀ b o, g.get? b = some o → s.heap.get? b = some o) (hg38 : g.get? 38 = none) (T : Tb s.heap) (hB : AllBare s.gens) (hh : A.handled = none)
    (hroom : A.depth + 3 < recursionLimit) (hD : s.heap.IsList D #[.str x t, .str y u]) (hx : Ok x) (hy : Ok y) (lx : x.length ≤ 25000) (ly : y.length ≤ 25000)
    (h : ∀ s' t', Tb s'.heap → (∀ b o, b ≠ 38 → s.heap.get? b = some o → s'.heap.get? b = some o) → AllBare s'.gens → s'.os = s.os → Q (.str (lineOf x y) t') s') :
    wpAny (model prog w) A (call (.ref 43) [.ref D]) Q E s := by
  refine' callF (a := 43) (binds := [(Str.ofString "split_command", .ref D)]) (G.keeps St) ?ho ?hcd (by omega) ?hb ?hc ?hl ?c1 ?c2 ?c3 ?_
  case ho => exact rfl
  case hcd => kernel_rfl
  case hb => exact rfl
  case hc => decide
  case hl => exact locs rfl
  case c1 => exact rfl
  case c2 => exact rfl
  case c3 => exact rfl
  intro h₁ L hL F₀
  have hG : ∀ b o, g.get? b = some o → (s.heap.hide 38).get? b = some o := fun b o e => by
    rw [Heap.hide_ne _ (fun q : b = 38 => by rw [q, hg38] at e; cases e)]; exact St b o e
  have G₁ : Gd w mg mb (s.heap.hide 38) := G.keeps hG
  have F : Fr (s.heap.hide 38) L h₁ _ := ⟨F₀.ns, fun b o e => F₀.keep b o (Heap.of_hide e), by rw [Heap.hide_size]; exact F₀.above⟩
  have T₁ : Tb h₁ := T.keeps F₀.keep
  have hD₁ : h₁.IsList D #[.str x t, .str y u] := hD.at fun o e => F₀.keep _ o e
  walk_at "go"
  with_reducible refine GM.join ?_
  refine callWith_method1 (arg1 ?_)
  rw [lit_b]
  refine wpAny_GeneratorExp_walksQD (cl := []) hh rfl (closureFor_none (by decide)) (by decide) rfl rfl rfl (by show A.depth + 1 < _; omega) ?_ (fun _ => rfl)
  walk_at "ld"
  refine wpAny_pyIter_list hD₁ ?_
  refine ⟨(G₁.lim.keeps F.keep).push _, ?_⟩
  refine gcode rfl rfl rfl (T₁.keeps fun _ _ e => Heap.get?_push_of_some _ e) ?_
  intro c' h₃ tk₃ x₃ hsz₃ T₃
  have hP38 : 38 < s.heap.objs.size := by obtain ⟨_, _, hT, _⟩ := T; exact Heap.lt_size hT.2
  have hL38 : L ≠ 38 := by rw [hL]; exact Nat.ne_of_gt hP38
  have hLlt : L < h₁.objs.size := F.ns.lt
  have hI38 : h₁.objs.size ≠ 38 := Nat.ne_of_gt (Nat.lt_trans (hL ▸ hP38) hLlt)
  have hDlt : D < h₁.objs.size := by obtain ⟨_, e, _⟩ := hD₁; exact Heap.lt_size e
  have hD38 : D ≠ 38 := fun e => by
    obtain ⟨_, _, hT, _⟩ := T
    obtain ⟨o, ho, hc, _⟩ := hD
    rw [e, hT.2] at ho; cases ho; cases hc
  obtain ⟨ps, hI₃, hT₃, hps⟩ := id T₃
  have hself : (regrown s.heap 38 ps).get? 38 = some { cls := .none, data := .fields ps } := by
    obtain ⟨_, _, hT, _⟩ := T
    exact Heap.get?_update_self _ hT.2 rfl
  have hoth : ∀ b, b ≠ 38 → (regrown s.heap 38 ps).get? b = s.heap.get? b := fun b hb => Heap.get?_update_other _ _ (Ne.symm hb)
  have F₃ : Fr (regrown s.heap 38 ps) L h₃ _ := ⟨(F.ns.push _).extBut x₃ hL38, fun b o e => by
      by_cases hb : b = 38
      · rw [hb, hself] at e; cases e; rw [hb]; exact hT₃.2
      · rw [hoth b hb] at e; exact x₃ b o hb (Heap.get?_push_of_some _ (F₀.keep b o e)), Nat.le_trans (Nat.le_of_eq (Heap.SameBut.update s.heap 38 _).1) F₀.above⟩
  have G₃ : Gd w mg mb h₃ := G₁.keeps fun b o e => x₃ b o (fun q => by rw [q, Heap.hide_self] at e; cases e) (Heap.get?_push_of_some _ (F.keep b o e))
  obtain ⟨bm, ob, M₃⟩ := G₃.bm
  refine wpAny_builtinsFor M₃.ns M₃.name M₃.ne M₃.obj M₃.cls M₃.dict M₃.data ?_
  have hsz' : h₁.objs.size < h₃.objs.size := by
    have := hsz₃
    rw [Heap.size_push] at this
    exact this
  have hcst : cStatics ≠ h₁.objs.size := fun e => by
    obtain ⟨_, hn, _⟩ := G₁.lim.keeps F.keep
    have := hn.lt
    rw [e] at this
    exact Nat.lt_irrefl _ this
  refine ⟨h₁.objs.size, [h₁.objs.size, D], [h₁.objs.size], 2, _, _, (fun _ => true), (fun i v => ∃ u, v = .str (if i = 0 then spell x else spell y) u), rfl,
    (fun A' hA => Walks.list hA h₁.objs.size D (Nat.ne_of_lt hDlt) #[.str x t, .str y u]), ⟨⟨_, x₃ _ _ hI38 (Heap.get?_push_size _ rfl), rfl, rfl⟩, hD₁.push _ |>.at fun o e => x₃ _ o hD38 e⟩, ?hfp, G₃.lim, ?hcw, ?hq, ?hQ⟩
  case hfp =>
    intro b hb
    rcases List.mem_cons.mp hb with rfl | hb
    · exact hsz'
    · rcases List.mem_cons.mp hb with rfl | hb
      · exact Nat.lt_trans hDlt hsz'
      · cases hb
  case hcw =>
    intro hm
    rcases List.mem_cons.mp hm with e | hm
    · exact hcst e
    · cases hm
  case hq =>
    intro href hhref
    have hkeep : ∀ (s₂ : Shared), (∀ b ∈ List.range h₃.objs.size, b ∉ [h₁.objs.size] → ∀ o, href.get? b = some o → s₂.heap.get? b = some o) → Gd w mg mb s₂.heap := fun s₂ hk => by
      refine G₁.keeps fun b o e => ?_
      have e₁ := F.keep b o e
      have hlt : b < h₁.objs.size := Heap.lt_size e₁
      refine hk b (List.mem_range.mpr (Nat.lt_trans hlt hsz')) (fun hm => ?_) o (hhref b o (x₃ b o (fun q => by rw [q, Heap.hide_self] at e; cases e) (Heap.get?_push_of_some _ e₁)))
      rcases List.mem_cons.mp hm with q | hm
      · exact Nat.lt_irrefl _ (q ▸ hlt)
      · cases hm
    refine ⟨fun A' E' i v s₂ m₂ hA' hd' hu' hP hn hm hk => ?_, fun A' E' i v s₂ m₂ hA' hd' hu' hP hp hn hm hk => ?_⟩
    · exact wpAny_tests_nil ⟨rfl, s₂.heap, s₂.toks, rfl, fun _ _ e => e⟩
    · have G₂ := hkeep s₂ hk
      refine cdef (w := w) G₂.g G₂.quote (by kernel_rfl) (arg1 ?_)
      refine wpAny_Name (wpAny_loadName_local rfl rfl hn hm ⟨G₂.K, ?_⟩) (by decide)
      have hd2 : A'.depth < recursionLimit := by
        have : A'.depth ≤ A.depth + 1 + 1 := hd'
        omega
      have hi2 : i = 0 ∨ i = 1 := by
        have hlt : i < 2 := by
          rcases Nat.lt_or_ge i 2 with q | q
          · exact q
          · rw [Array.getElem?_eq_none (by simpa using q)] at hP; cases hP
        omega
      rcases hi2 with rfl | rfl
      · have e : v = .str x t := by simpa using hP.symm
        subst e
        exact quote_spec G₂ hd2 hx (by omega) (fun h' tk t' hk' => ⟨⟨t', rfl⟩, h', tk, rfl, hk'⟩)
      · have e : v = .str y u := by simpa using hP.symm
        subst e
        exact quote_spec G₂ hd2 hy (by omega) (fun h' tk t' hk' => ⟨⟨t', rfl⟩, h', tk, rfl, hk'⟩)
  case hQ =>
    intro a h₅ tk₅ gs hgb hag hsz₅ hk₅ W hat
    have F₅ := F₃.keeps hk₅
    have hlx := spell_len x
    have hly := spell_len y
    refine join_rows (n := 2) (F := fun j z => ∃ i, (passing (fun _ => true) 2 0)[j]? = some i ∧ ∃ u, z = Value.str (if i = 0 then spell x else spell y) u) F₅ (hB.push hgb) ⟨_, _, _, _, W, hat, (fun i s' st => st.1.typeIs), List.mem_cons_self, ?_, ?_⟩ (fun j => if j = 0 then spell x else spell y) ?_ ?_ ?_
    · intro b hb
      show b < h₅.objs.size
      rw [hsz₅]
      rcases List.mem_cons.mp hb with rfl | hb
      · exact Nat.lt_succ_self _
      · rcases List.mem_cons.mp hb with rfl | hb
        · exact Nat.lt_succ_of_lt hag
        · exact Nat.lt_succ_of_lt (Nat.lt_trans (List.mem_range.mp hb) hag)
    · intro b hb
      rcases List.mem_cons.mp hb with rfl | hb
      · exact Nat.lt_trans hLlt hsz'
      · rcases List.mem_cons.mp hb with rfl | hb
        · exact hLlt
        · cases hb
    · rintro j v ⟨i, hi, u', rfl⟩
      have hpass : passing (fun _ => true) 2 0 = [0, 1] := by decide
      rw [hpass] at hi
      match j, hi with
      | 0, hi => simp at hi; subst hi; exact ⟨u', rfl⟩
      | 1, hi => simp at hi; subst hi; exact ⟨u', rfl⟩
      | j + 2, hi => simp at hi
    · show JoinOk bS [spell x, spell y] = true
      refine joinOk_of_weight ?_ (by decide)
      simp only [List.map_cons, List.map_nil, List.sum_cons, List.sum_nil, List.length_cons, List.length_nil]
      omega
    · intro s' t' Fe hBe hoe
      have e : Txt.join bS ((List.range 2).map fun j => if j = 0 then spell x else spell y) = lineOf x y := by
        show Builtin.Str.glued bS [spell x, spell y] = _
        rw [StrLaws.glued_eq_join]
        rfl
      rw [e]
      refine h s' t' ?_ (fun b o hb eb => Fe.keep b o ((hoth b hb).trans eb)) hBe hoe
      refine T₃.at (fun o eo => ?_) (fun o eo => ?_)
      · have h42 : s.heap.get? 42 = some o := by
          have k2 := G₃.K 42 _ rfl
          have k1 := (G.keeps St).K 42 _ rfl
          rw [k2] at eo
          exact k1.trans eo
        exact Fe.keep 42 o ((hoth 42 (by decide)).trans h42)
      · rw [hT₃.2] at eo; cases eo
        exact Fe.keep 38 _ hself
end
end Mine
end P_Join

/-! Words -/
section P_Words
open PySem PySem.W PySem.Calls PyProof.Rows
namespace Mine
local macro_rules | `(tactic| walk_at "ld") => `(tactic| ((first | (with_reducible refine' ldL (by assumption) ?mv ?_ ?mk ?ml ?md) | (with_reducible refine' ld (by assumption) ?mv ?_ ?mk ?ml ?md)); (case mv => first | exact rfl | assumption); (case mk => exact rfl); (case ml => exact rfl); (case md => decide)))
local macro_rules | `(tactic| walk_at "st") => `(tactic| ((with_reducible refine stL (by assumption) ?_ ?mk ?ml); (case mk => exact rfl); (case ml => exact rfl)))
local macro_rules | `(tactic| walk_at "1") => `(tactic| first
  | with_reducible refine wpAny_execs_cons ?_
  | with_reducible refine wpAny_execs_nil ?_
  | with_reducible refine wpAny_Return_some ?_
  | with_reducible refine wpAny_If ?_
  | with_reducible refine wpAny_BinOp ?_
  | (with_reducible refine Constant_str ?_; try dsimp only)
  | (with_reducible refine wpAny_Constant_int ?_; try dsimp only)
  | with_reducible refine Subscript_ ?_
  | with_reducible refine isTrue_not ?_
  | with_reducible refine isTrue_and ?_
  | with_reducible refine isTrue_and_nil ?_
  | ((with_reducible refine wpAny_isTrue_Compare1 ?_ ?mh); (case mh => exact rfl))
  | ((with_reducible refine wpAny_Compare1 ?_ ?mh); (case mh => exact rfl))
  | ((with_reducible refine wpAny_Assign_Name ?_ ?mh); (case mh => exact rfl))
  | ((with_reducible refine wpAny_Assign_Subscript ?_ ?mh); (case mh => exact rfl))
  | walk_at "ld"
  | ((with_reducible refine isTrue_plain ?_ ?mh); (case mh => exact rfl))
  | ((with_reducible refine mcallN ?_ ?mh ?mi); (case mh => exact rfl); (case mi => exact rfl))
  | ((with_reducible refine mcallC ?_ ?mh ?mi); (case mh => exact rfl); (case mi => exact rfl))
  | ((with_reducible refine mcallF ?_ ?mh ?mi); (case mh => exact rfl); (case mi => exact rfl))
  | with_reducible refine wpAny_truthy_bool ?_
  | (with_reducible refine PyProof.Rows.add_int ?_; try dsimp only)
  | (with_reducible refine PyProof.Rows.sub_int ?_; try dsimp only)
  | with_reducible refine PyProof.Rows.gt_int ?_
  | with_reducible refine PyProof.Rows.lt_int ?_
  | with_reducible refine PyProof.Rows.eq_int ?_
  | with_reducible refine PyProof.Rows.ne_int ?_
  | with_reducible refine isTrue_and ?_
  | with_reducible refine isTrue_and_nil ?_
  | ((with_reducible refine wpAny_Expr_any ?_ ?mh ?mi); (case mh => exact rfl); (case mi => exact rfl))
  | (with_reducible refine PyProof.Rows.mul_int ?_ (IntMulOk.of_left (by decide)); try dsimp only)
  | with_reducible refine wpAny_Break ?_
  | with_reducible refine wpAny_Continue ?_)
local macro_rules | `(tactic| walk_at "go") => `(tactic| repeat walk_at "1")

section
variable {prog : Program} {w : World} {A : Around} {E : Value → Shared → Prop} {s : Shared} {mg mb : Str → Option Value} {g : Heap}

/-- the words so far -/
def WL (ys : Array Value) (B : Nat) : Prop := ∀ v ∈ ys.toList, ∃ x t, v = .str x t ∧ Ok x ∧ x.length ≤ B
theorem small_range {n : Nat} (h2 : n ≤ 2000) : Builtin.Range.small 0 (n : Int) 1 = true := by
  have e := fitsLong_small (i := (n : Int)) (by omega) (by omega)
  have z : Builtin.Range.rangeSize 0 (n : Int) 1 = n := by rw [rangeSize_one]; split <;> omega
  unfold Builtin.Range.small
  simp [e, fitsLong_small, z]
/-- a new range and its iterator -/
theorem iter_range {n : Nat} {t : Tok} {Q : Value → Shared → Prop} (hn : n ≤ 2000)
    (h : ∀ h' it tk, (∀ b o, s.heap.get? b = some o → h'.get? b = some o) → IsRangeIter h' it 0 n 1 → s.heap.objs.size < it → it < h'.objs.size → Q (.ref it) { s with heap := h', toks := tk }) :
    wpAny (model prog w) A (call (.type "range") [.int (n : Int) t]) (fun v s₁ => wpAny (model prog w) A (pyIter v) Q E s₁) E s := by
  refine call_range_1 ?_
  refine wpAny_pyIter_range (IsRange.new _ _ _ _ _ _ _) (small_range hn) ?_
  have z : Builtin.Range.rangeSize 0 (n : Int) 1 = n := by rw [rangeSize_one]; split <;> omega
  rw [z]
  refine h _ _ _ (fun _ _ e => Heap.get?_push_of_some _ (Heap.get?_push_of_some _ e)) (Heap.get?_push_size _ rfl) ?_ ?_
  · rw [Heap.size_push]; exact Nat.lt_succ_self _
  · exact Nat.lt_of_lt_of_le (Nat.lt_succ_self _) (Nat.le_of_eq (Heap.size_push _ _).symm)
theorem item_I {value slice : Expr} {l : Addr} {items : Array Value} {k : Int} {t : Tok} {x : Value} {Q : Value → Shared → Prop} (hl : s.heap.IsList l items) (h0 : 0 ≤ k) (hk : k < 2 ^ 63) (hx : items[k.toNat]? = some x) (h : Q x s)
    (hs : subscripted slice false (.ref l) (.int k t) = operate [.ref l, .int k t] (getItem (.ref l) (.int k t))) : wpAny (model prog w) A (subscriptTail value slice (.ref l) (.int k t)) Q E s :=
  tail_any hl.typeIs slot_list_getitem.lookup (wpAny_getItem_list hl h0 hk hx h) hs
theorem ite_join {M : Model} {α : Type} {c : Prop} [Decidable c] {m1 m2 : Sem α} {mid Q : α → Shared → Prop} (h1 : c → wpAny M A m1 mid E s) (h2 : ¬ c → wpAny M A m2 mid E s) (h : ∀ v s', mid v s' → Q v s') :
    if c then wpAny M A m1 Q E s else wpAny M A m2 Q E s := by
  by_cases hc : c
  · rw [if_pos hc]; exact wpAny_mono (h1 hc) h fun _ _ x => x
  · rw [if_neg hc]; exact wpAny_mono (h2 hc) h fun _ _ x => x
theorem fmodN (p n : Nat) : (p : Int).fmod (n : Int) = ((p % n : Nat) : Int) := by
  rw [Int.fmod_eq_emod_of_nonneg _ (by omega)]; rfl
theorem nth_sign {i : Int} (h0 : 0 ≤ i) (h9 : i < 9) : ∃ c, (seqIndex? i (Str.ofString "''' a~%\\\"").length).bind ((Str.ofString "''' a~%\\\"").cps[·]?) = some c ∧ okc c = true := by
  have : i = 0 ∨ i = 1 ∨ i = 2 ∨ i = 3 ∨ i = 4 ∨ i = 5 ∨ i = 6 ∨ i = 7 ∨ i = 8 := by omega
  rcases this with rfl | rfl | rfl | rfl | rfl | rfl | rfl | rfl | rfl <;> exact ⟨_, by rfl, by decide⟩
theorem ok_snoc {x : Str} {c : Nat} (hx : Ok x) (hc : okc c = true) : Ok (x ++ ⟨#[c]⟩) := by
  rw [ok_iff] at hx ⊢
  intro d hd
  simp only [Str.cps_append, Array.toList_append, List.mem_append] at hd
  rcases hd with hd | hd
  · exact hx d hd
  · simp at hd; subst hd; exact hc
def intAt : Value → Int
  | .int n _ => n
  | _ => 0
theorem fresh_none {h : Heap} {a : Addr} (ha : h.objs.size ≤ a) : h.get? a = none := Heap.get?_none_of_le ha

theorem words_spec {N : Addr} {vs : Array Value} {Q : Value → Shared → Prop} (G : Gd w mg mb s.heap) (hh : A.handled = none)
    (hroom : A.depth + 2 < recursionLimit) (hN : s.heap.IsList N vs) (hi : AllInts vs) (hsz : vs.size ≤ 12)
    (h : ∀ h' tk D ys, h'.PlainList D ys → 3 ≤ ys.size → ys.size ≤ 5 → WL ys 24 → s.heap.get? D = none → (∀ b o, s.heap.get? b = some o → h'.get? b = some o) → Q (.ref D) { s with heap := h', toks := tk }) :
    wpAny (model prog w) A (call (.ref 91) [.ref N]) Q E s := by
  refine' callF (a := 91) (binds := [(Str.ofString "numbers", .ref N)]) G ?ho ?hcd (by omega) ?hb ?hc ?hl ?c1 ?c2 ?c3 ?_
  case ho => exact rfl
  case hcd => kernel_rfl
  case hb => exact rfl
  case hc => decide
  case hl => exact locs rfl
  case c1 => exact rfl
  case c2 => exact rfl
  case c3 => exact rfl
  intro h₁ L hL F
  have hN₁ : h₁.IsList N vs := hN.at fun o e => F.keep _ o e
  have hNlt : N < s.heap.objs.size := by obtain ⟨_, e, _⟩ := hN; exact Heap.lt_size e
  walk_at "1"
  refine wpAny_Assign_ListComp_walk (fun _ => true) (fun _ y => ∃ t, y = .str Str.empty t) rfl (by decide) (by decide) rfl (by decide) rfl rfl rfl ?_
  refine ctyp (mb := mb) (G.g.keeps F.keep) (G.b.keeps F.keep) G.range (arg1 ?_)
  walk_at "go"
  refine cblt (mb := mb) (G.g.keeps F.keep) (G.b.keeps F.keep) G.sum (arg1 ?_)
  refine wpAny_ListComp_walk (fun _ => true) (fun _ y => ∃ n t, y = .int n t) (by decide) (by decide) rfl (by decide) rfl ?_
  walk_at "ld"
  refine wpAny_pyIter_list hN₁ ?_
  have hN1 : N < h₁.objs.size := Nat.lt_of_lt_of_le hNlt (Nat.le_trans F.above (Nat.le_of_lt F.ns.lt))
  refine ⟨h₁.objs.size, [h₁.objs.size, N], [h₁.objs.size], vs.size, _, _, rfl, Walks.list (by exact hh) _ N (Nat.ne_of_lt hN1) vs, (by unfold sizeLine; omega), ⟨⟨_, Heap.get?_push_size _ rfl, rfl, rfl⟩, hN₁.push _⟩, ?hfp, ⟨?t, ?e⟩, ?_⟩
  case hfp =>
    intro b hb
    rw [Heap.size_push]
    rcases List.mem_cons.mp hb with rfl | hb
    · exact Nat.lt_succ_self _
    · rcases List.mem_cons.mp hb with rfl | hb
      · exact Nat.lt_succ_of_lt hN1
      · cases hb
  case t =>
    intro C i v s₃ m₃ E' hP hn hm hk htk
    exact wpAny_tests_nil ⟨rfl, s₃.heap, s₃.toks, rfl, fun _ _ e => e⟩
  case e =>
    intro C i v s₃ m₃ E' hP hpv hn hm hk htk
    refine wpAny_BinOp ?_
    refine wpAny_Name (wpAny_loadName_local rfl rfl hn hm ?_) (by decide)
    walk_at "go"
    obtain ⟨n, t, rfl⟩ := hi v (Array.mem_of_getElem? hP)
    refine mod_int (by decide) ?_
    exact ⟨⟨_, _, rfl⟩, s₃.heap, _, rfl, fun _ _ e => e⟩
  intro D₂ h₂ tk₂ zs us hD₂ l₂ pl₂ hlen hP hF hk
  have hk₂ : ∀ b o, h₁.get? b = some o → h₂.get? b = some o := fun b o e => hk b o (fun hm => by
    rcases List.mem_cons.mp hm with q | hm
    · exact Nat.lt_irrefl _ (q ▸ Heap.lt_size e)
    · cases hm) (Heap.get?_push_of_some _ e)
  refine call_sum_walkG ?_
  refine wpAny_pyIter_list l₂ ?_
  have hD2 : D₂ < h₂.objs.size := by obtain ⟨_, e, _⟩ := l₂; exact Heap.lt_size e
  refine ⟨h₂.objs.size, [h₂.objs.size, D₂], [h₂.objs.size], zs.size, _, _, (fun i => intAt (zs.getD i .none)), rfl, Walks.list (by exact hh) _ D₂ (Nat.ne_of_lt hD2) zs, ⟨⟨_, Heap.get?_push_size _ rfl, rfl, rfl⟩, l₂.push _⟩, ?hfp, ?hv, ?_⟩
  case hfp =>
    intro b hb
    rw [Heap.size_push]
    rcases List.mem_cons.mp hb with rfl | hb
    · exact Nat.lt_succ_self _
    · rcases List.mem_cons.mp hb with rfl | hb
      · exact Nat.lt_succ_of_lt hD2
      · cases hb
  case hv =>
    intro i v e
    obtain ⟨_, n, t, rfl⟩ := hF.right v (Array.mem_toList_iff.mpr (Array.mem_of_getElem? e))
    refine ⟨t, ?_⟩
    have : zs.getD i .none = .int n t := by
      rw [Array.getD_eq_getD_getElem?, e]; rfl
    dsimp only
    rw [this]
    rfl
  intro h₃ tk₃ t₃ hk₃
  have kk₃ : ∀ b o, h₁.get? b = some o → h₃.get? b = some o := fun b o e => hk₃ b o (fun hm => by
    rcases List.mem_cons.mp hm with q | hm
    · exact Nat.lt_irrefl _ (q ▸ Heap.lt_size (hk₂ b o e))
    · cases hm) (Heap.get?_push_of_some _ (hk₂ b o e))
  have F₃ := F.keeps kk₃
  generalize preSum _ _ = S
  dsimp only
  walk_at "go"
  refine mod_int (by decide) ?_
  dsimp only
  walk_at "go"
  obtain ⟨n, hn3, hn5, hn⟩ : ∃ n : Nat, 3 ≤ n ∧ n ≤ 5 ∧ 3 + S.fmod 3 = (n : Int) := by
    have e1 : 0 ≤ S.fmod 3 := Int.fmod_nonneg_of_pos _ (by decide)
    have e2 : S.fmod 3 < 3 := Int.fmod_lt_of_pos _ (by decide)
    exact ⟨(3 + S.fmod 3).toNat, by omega, by omega, by omega⟩
  rw [hn]
  refine iter_range (by omega) ?_
  intro h₄ it tk₄ k₄ I₄ lo₄ hi₄
  dsimp only at k₄ I₄ lo₄ ⊢
  have F₄ := F₃.keeps k₄
  have hLlt : L < h₃.objs.size := F₃.ns.lt
  have hitL : L ≠ it := Nat.ne_of_lt (Nat.lt_trans hLlt lo₄)
  refine ⟨it, [it], [it], n, _, _, _, rfl, Walks.range (by exact hh) it 0 1 n, (by unfold sizeLine; omega), ?st, ?hfp, ?hLw, F₄.ns, ⟨?t, ?e⟩, ?_⟩
  case st =>
    show IsRangeIter h₄ it (0 + ((0 : Nat) : Int) * 1) ((n : Int) - ((0 : Nat) : Int)) 1
    rw [show (0 + ((0 : Nat) : Int) * 1) = 0 by omega, show ((n : Int) - ((0 : Nat) : Int)) = n by omega]
    exact I₄
  case hfp =>
    intro b hb
    rcases List.mem_cons.mp hb with rfl | hb
    · exact hi₄
    · cases hb
  case hLw =>
    intro hm
    rcases List.mem_cons.mp hm with q | hm
    · exact hitL q
    · cases hm
  case t =>
    intro C i v s₃ m₃ E' hP hn hm hk htk
    exact wpAny_tests_nil ⟨rfl, s₃.heap, s₃.toks, rfl, fun _ _ e => e⟩
  case e =>
    intro C i v s₃ m₃ E' hP hpv hn hm hk htk
    walk_at "go"
    rw [lit_e]
    exact ⟨⟨_, rfl⟩, s₃.heap, _, rfl, fun _ _ e => e⟩
  intro D h₅ tk₅ ys ws hD₅ _ pl₅ hlen₅ _ hF₅ ns₅ hk₅
  try dsimp only at hD₅ hk₅
  have hDL : D ≠ L := by
    rintro rfl
    obtain ⟨o, _, _, ho, _⟩ := F₄.ns
    rw [hD₅] at ho; cases ho
  have hDfree : s.heap.get? D = none := by
    cases e : s.heap.get? D with
    | none => rfl
    | some o => have := F₄.keep D o e; rw [hD₅] at this; cases this
  have hLfree : s.heap.get? L = none := fresh_none (Nat.le_of_eq hL.symm)
  have X₅ : LS s.heap L D h₅ _ ys := ⟨⟨ns₅, fun b o e => hk₅ b o (fun q => by have q' : b = L := q; rw [q', hLfree] at e; cases e) (fun hm => by
    rcases List.mem_cons.mp hm with q | hm
    · have := Heap.lt_size e
      rw [q] at this
      exact Nat.lt_irrefl _ (Nat.lt_trans this (Nat.lt_of_le_of_lt F₃.above (Nat.lt_trans hLlt lo₄)))
    · cases hm) (F₄.keep b o e), F₄.above⟩, pl₅, hDL, hDfree⟩
  have hysz : ys.size = n := by
    have := hF₅.length
    rw [List.filter_eq_self.mpr (fun _ _ => rfl), hlen₅] at this
    simpa using this.symm
  have W₀ : WL ys 0 := fun v hv => by
    obtain ⟨_, t, rfl⟩ := hF₅.right v hv
    exact ⟨_, t, rfl, (fun i hi => absurd hi (Nat.not_lt_zero i)), Nat.le_refl _⟩
  clear hF₅ hk₅ ns₅ pl₅ hk₃ hk hD₂ hF hP hlen l₂ pl₂ hk₂ hD2
  have hN₅ : ∀ {h' : Heap} {m' : Str → Option Value} {zs' : Array Value}, LS s.heap L D h' m' zs' → h'.IsList N vs := fun X' => hN.at fun o e => X'.F.keep _ o e
  walk_at "1"
  refine wpAny_For ?_
  refine ctyp (mb := mb) (G.g.keeps X₅.F.keep) (G.b.keeps X₅.F.keep) G.range (arg1 ?_)
  refine cblt (mb := mb) (G.g.keeps X₅.F.keep) (G.b.keeps X₅.F.keep) G.len (arg1 ?_)
  walk_at "go"
  refine call_len_list (hN₅ X₅) (by omega) ?_
  dsimp only
  refine iter_range (by omega) ?_
  intro h₆ it₂ tk₆ k₆ I₆ lo₆ hi₆
  have X₆ := X₅.kept k₆
  have hi2L : it₂ ≠ L := Nat.ne_of_gt (Nat.lt_trans X₅.F.ns.lt lo₆)
  have hDlt : D < h₅.objs.size := by obtain ⟨_, e⟩ := X₅.hl; exact Heap.lt_size e
  have hi2D : it₂ ≠ D := Nat.ne_of_gt (Nat.lt_trans hDlt lo₆)
  have hi2f : s.heap.get? it₂ = none := fresh_none (Nat.le_of_lt (Nat.lt_of_le_of_lt X₅.F.above (Nat.lt_trans X₅.F.ns.lt lo₆)))
  refine codeAny_forLoop_any (fun k s' => ∃ (h' : Heap) (tk : Nat) (zs : Array Value) (m : Str → Option Value) (p : Nat), s' = { s with heap := h', toks := tk } ∧ LS s.heap L D h' m zs ∧ IsRangeIter h' it₂ (p : Int) k 1 ∧ zs.size = n ∧ p + k = vs.size ∧
      WL zs (2 * p) ∧ m (Str.ofString "numbers") = some (.ref N) ∧ m (Str.ofString "words") = some (.ref D)) ?turn vs.size ?start
  case start => exact ⟨h₆, _, ys, _, 0, rfl, X₆, I₆, hysz, by omega, W₀, rfl, rfl⟩
  rintro k s' ⟨h', tk, zs, m, p, rfl, X', I', hz, hpk, W', e1, e2⟩
  cases k with
  | zero =>
    refine wpAny_pyNext_range_end hh I' (by omega) ?_
    intro h₇ x₇
    have X₇ : LS s.heap L D h₇ m zs := ⟨⟨X'.F.ns.at fun o e => x₇ L o (Ne.symm hi2L) e, fun b o e => x₇ b o (fun q => by rw [q, hi2f] at e; cases e) (X'.F.keep b o e), X'.F.above⟩, X'.hl.at fun o e => x₇ D o (Ne.symm hi2D) e, X'.ne, X'.free⟩
    walk_at "go"
    refine h h₇ _ D zs X₇.hl (by omega) (by omega) (fun v hv => ?_) hDfree X₇.F.keep
    obtain ⟨x, t, e, o, l⟩ := W' v hv
    exact ⟨x, t, e, o, by omega⟩
  | succ k =>
    refine wpAny_pyNext_range_item I' (by omega) ?_
    intro h₇ I₇ s₇
    have X₇ : LS s.heap L D h₇ m zs := ⟨⟨X'.F.ns.sameBut s₇ (Ne.symm hi2L), fun b o e => s₇.extBut b o (fun q => by rw [q, hi2f] at e; cases e) (X'.F.keep b o e), X'.F.above⟩, X'.hl.extBut s₇.extBut (Ne.symm hi2D), X'.ne, X'.free⟩
    dsimp only
    refine wpAny_pure ?_
    refine wpAny_assign_Name ?_
    walk_at "st"
    intro h₈ X₈ k₈
    have I₈ : IsRangeIter h₈ it₂ _ _ 1 := k₈ it₂ _ hi2L I₇
    walk_at "go"
    have hp : p < vs.size := by omega
    obtain ⟨nv, nt, hnv⟩ := hi (vs[p]) (by simp)
    refine item_I (hN₅ X₈) (by omega) (by omega) (x := .int nv nt) (by rw [← hnv]; simp [hp]) ?_ rfl
    walk_at "go"
    refine mod_int (by decide) ?_
    dsimp only
    walk_at "go"
    walk_at "st"
    intro h₉ X₉ k₉
    have I₉ : IsRangeIter h₉ it₂ _ _ 1 := k₉ it₂ _ hi2L I₈
    dsimp only
    walk_at "go"
    have r0 : 0 ≤ nv.fmod 100 := Int.fmod_nonneg_of_pos _ (by decide)
    have r1 : nv.fmod 100 < 100 := Int.fmod_lt_of_pos _ (by decide)
    refine wpAny_While (codeAny_whileLoop (fun n' s' => ∃ (h' : Heap) (tk : Nat) (zs : Array Value) (m : Str → Option Value) (r : Nat), s' = { s with heap := h', toks := tk } ∧ LS s.heap L D h' m zs ∧ IsRangeIter h' it₂ ((p : Int) + 1) k 1 ∧ zs.size = n ∧
      ((r < 100 ∧ WL zs (2 * p)) ∨ (r < 10 ∧ WL zs (2 * p + 1)) ∨ (r = 0 ∧ WL zs (2 * p + 2))) ∧ r ≤ n' ∧ m (Str.ofString "numbers") = some (.ref N) ∧ m (Str.ofString "words") = some (.ref D) ∧ (∃ t, m (Str.ofString "place") = some (.int p t)) ∧ (∃ u, m (Str.ofString "rest") = some (.int r u))) ?turn2 100 ?start2)
    case start2 =>
      refine ⟨h₉, _, zs, _, (nv.fmod 100).toNat, rfl, X₉, ?_, hz, .inl ⟨by omega, W'⟩, by omega, e1, e2, ⟨_, rfl⟩, ?_⟩
      · rw [show (((k + 1 : Nat) : Int) - 1) = (k : Int) by omega] at I₉
        exact I₉
      · rw [Int.toNat_of_nonneg r0]; exact ⟨_, rfl⟩
    clear I₉ I₈ I₇ X₉ X₈ X₇ I' X' W' e1 e2 s₇ k₈ k₉ I₄ k₄ I₆ k₆ X₅ X₆ W₀
    rintro n' s' ⟨h', tk, zs, m, r, rfl, X', I', hz, hw, hrn, e1, e2, ⟨t3, e3⟩, u, e4⟩
    walk_at "go"
    by_cases hr : 0 < r
    · rw [if_pos (by simpa using hr)]
      walk_at "go"
      refine mod_int (by decide) ?_
      dsimp only
      walk_at "go"
      refine ite_join (mid := fun f s' => f = .next ∧ ∃ (h' : Heap) (tk : Nat) (zs' : Array Value), s' = { s with heap := h', toks := tk } ∧ LS s.heap L D h' m zs' ∧ IsRangeIter h' it₂ ((p : Int) + 1) k 1 ∧ zs'.size = n ∧ ∀ B, WL zs B → WL zs' (B + 1)) ?_ ?_ ?_
      · intro hc
        have hc : 0 < (r : Int).fmod 10 := by simpa using hc
        have hc9 : (r : Int).fmod 10 < 10 := Int.fmod_lt_of_pos _ (by decide)
        walk_at "go"
        refine cblt (mb := mb) (G.g.keeps X'.F.keep) (G.b.keeps X'.F.keep) G.len (arg1 ?_)
        walk_at "go"
        refine call_len_list X'.hl.isList (by omega) ?_
        dsimp only
        refine mod_int (by omega) ?_
        rw [fmodN]
        have hpz : p % zs.size < zs.size := Nat.mod_lt _ (by omega)
        have hm' := getD_mem hpz
        obtain ⟨x0, t0, ev0, _⟩ : ∃ x t, zs.getD (p % zs.size) .none = .str x t ∧ Ok x := by
          rcases hw with ⟨_, W⟩ | ⟨_, W⟩ | ⟨_, W⟩ <;> (obtain ⟨x, t, e, o, _⟩ := W _ hm'; exact ⟨x, t, e, o⟩)
        have hx0 : ∀ B, WL zs B → Ok x0 ∧ x0.length ≤ B := fun B W => by
          obtain ⟨x, t, e, o, l⟩ := W _ hm'
          rw [ev0] at e; cases e; exact ⟨o, l⟩
        refine item_b X'.hl (by omega) (by omega) (getD_some (i := p % zs.size) (by simpa using hpz)) ?_
        rw [ev0]
        walk_at "go"
        refine mod_int (by decide) ?_
        dsimp only
        walk_at "go"
        obtain ⟨c, hcc, hok⟩ := nth_sign (i := (r : Int).fmod 10 - 1) (by omega) (by omega)
        refine tail_any (typeIs_str _ _ _) slot_str_getitem.lookup (getItem_str (c := c) ?_ hcc ?_) rfl
        · rw [Bool.or_eq_false_iff, decide_eq_false_iff_not, decide_eq_false_iff_not]; omega
        dsimp only
        have hlen24 : x0.length ≤ 100 := by
          rcases hw with ⟨_, W⟩ | ⟨_, W⟩ | ⟨_, W⟩ <;> (have := (hx0 _ W).2; omega)
        refine PyProof.Rows.add_str ?_ (by have : (⟨#[c]⟩ : Str).length = 1 := rfl; unfold sizeLine; omega)
        intro t' tk'
        dsimp only
        walk_at "go"
        refine cblt (mb := mb) (G.g.keeps X'.F.keep) (G.b.keeps X'.F.keep) G.len (arg1 ?_)
        walk_at "go"
        refine call_len_list X'.hl.isList (by omega) ?_
        dsimp only
        refine mod_int (by omega) ?_
        rw [fmodN]
        refine setL X' (by omega) (by omega) (by omega) ?_
        intro h₅' X₅' k₅'
        walk_at "go"
        refine ⟨rfl, h₅', _, _, rfl, X₅', k₅' it₂ _ hi2D I', by simp [hz], fun B W v hv => ?_⟩
        rcases mem_set hv with rfl | hv
        · obtain ⟨o, l⟩ := hx0 B W
          refine ⟨_, _, rfl, ok_snoc o hok, ?_⟩
          rw [Str.length_append]
          have : (⟨#[c]⟩ : Str).length = 1 := rfl
          omega
        · obtain ⟨x, t, e, o, l⟩ := W v hv
          exact ⟨x, t, e, o, by omega⟩
      · intro hc
        walk_at "go"
        refine ⟨rfl, h', _, zs, rfl, X', I', hz, fun B W v hv => ?_⟩
        obtain ⟨x, t, e, o, l⟩ := W v hv
        exact ⟨x, t, e, o, by omega⟩
      rintro f s' ⟨rfl, h₆, tk₆, zs', rfl, X₆, I₆, hz', hB⟩
      dsimp only
      walk_at "go"
      refine floordiv_int (by decide) ?_ (Or.inl (PyProof.noPylong_small (by rcases hw with ⟨q, _⟩ | ⟨q, _⟩ | ⟨q, _⟩ <;> omega)))
      have er : (r : Int).fdiv 10 = ((r / 10 : Nat) : Int) := by rw [Int.fdiv_eq_ediv_of_nonneg _ (by omega)]; omega
      rw [er]
      walk_at "st"
      intro h₇ X₇ k₇
      walk_at "go"
      refine ⟨r / 10, by omega, h₇, _, zs', _, r / 10, rfl, X₇, k₇ it₂ _ hi2L I₆, hz', ?_, Nat.le_refl _, e1, e2, ⟨_, e3⟩, _, rfl⟩
      rcases hw with ⟨q, W⟩ | ⟨q, W⟩ | ⟨q, W⟩
      · exact .inr (.inl ⟨by omega, hB _ W⟩)
      · exact .inr (.inr ⟨by omega, hB _ W⟩)
      · omega
    · rw [if_neg (by simpa using hr)]
      walk_at "go"
      refine ⟨k, by omega, h', _, zs, m, p + 1, rfl, X', I', hz, by omega, fun v hv => ?_, e1, e2⟩
      rcases hw with ⟨q, W⟩ | ⟨q, W⟩ | ⟨q, W⟩ <;> (obtain ⟨x, t, e, o, l⟩ := W v hv; exact ⟨x, t, e, o, by omega⟩)
end
end Mine
end P_Words

/-! HeapL -/
section P_HeapL
open PySem PySem.W PySem.Calls PyProof.Rows
namespace Mine

/-- a heap of at most five, by its keys -/
def HP (K : Value → Int) : List Value → Prop
  | [a, b] => K a ≤ K b
  | [a, b, c] => K a ≤ K b ∧ K a ≤ K c
  | [a, b, c, d] => K a ≤ K b ∧ K a ≤ K c ∧ K b ≤ K d
  | [a, b, c, d, e] => K a ≤ K b ∧ K a ≤ K c ∧ K b ≤ K d ∧ K b ≤ K e
  | _ => True
/-- a heap below its root -/
def HS (K : Value → Int) : List Value → Prop
  | [_, b, _, d] => K b ≤ K d
  | [_, b, _, d, e] => K b ≤ K d ∧ K b ≤ K e
  | _ => True
theorem HP.sub {K : Value → Int} {l : List Value} (h : HP K l) : HS K l := by
  unfold HP at h
  unfold HS
  split <;> simp_all

theorem su0_1 {lt : Value → Value → Bool} (a : Value) : siftupA lt #[a] 0 = #[a] := by
  simp [siftupA, supA, sdownA]
theorem su0_2 {lt : Value → Value → Bool} (a b : Value) : siftupA lt #[a, b] 0 = if lt a b then #[a, b] else #[b, a] := by
  simp [siftupA, supA, sdownA]
theorem su0_3 {lt : Value → Value → Bool} (a b c : Value) : siftupA lt #[a, b, c] 0 = if lt b c then (if lt a b then #[a, b, c] else #[b, a, c]) else (if lt a c then #[a, b, c] else #[c, b, a]) := by
  cases h1 : lt b c <;> simp [siftupA, supA, sdownA, h1]
theorem su0_4 {lt : Value → Value → Bool} (a b c d : Value) : siftupA lt #[a, b, c, d] 0 =
    if lt b c then (if lt a d then (if lt a b then #[a, b, c, d] else #[b, a, c, d]) else #[b, d, c, a]) else (if lt a c then #[a, b, c, d] else #[c, b, a, d]) := by
  cases h1 : lt b c <;> simp [siftupA, supA, sdownA, h1]
theorem su0_5 {lt : Value → Value → Bool} (a b c d e : Value) : siftupA lt #[a, b, c, d, e] 0 =
    if lt b c then (if lt d e then (if lt a d then (if lt a b then #[a, b, c, d, e] else #[b, a, c, d, e]) else #[b, d, c, a, e])
      else (if lt a e then (if lt a b then #[a, b, c, d, e] else #[b, a, c, d, e]) else #[b, e, c, d, a])) else (if lt a c then #[a, b, c, d, e] else #[c, b, a, d, e]) := by
  cases h1 : lt b c <;> cases h2 : lt d e <;> simp [siftupA, supA, sdownA, h1, h2]
theorem su1_4 {lt : Value → Value → Bool} (a b c d : Value) : siftupA lt #[a, b, c, d] 1 = if lt b d then #[a, b, c, d] else #[a, d, c, b] := by
  simp [siftupA, supA, sdownA]
theorem su1_5 {lt : Value → Value → Bool} (a b c d e : Value) : siftupA lt #[a, b, c, d, e] 1 =
    if lt d e then (if lt b d then #[a, b, c, d, e] else #[a, d, c, b, e]) else (if lt b e then #[a, b, c, d, e] else #[a, e, c, d, b]) := by
  cases h2 : lt d e <;> simp [siftupA, supA, sdownA, h2]

theorem permOf (f : Nat → Value) (l l' : List Nat) (h : l.Perm l') : (l.map f).Perm (l'.map f) := h.map f
def at5 (a b c d e : Value) : Nat → Value
  | 0 => a
  | 1 => b
  | 2 => c
  | 3 => d
  | _ => e

theorem list_cases {l : List Value} (h1 : 1 ≤ l.length) (h5 : l.length ≤ 5) : (∃ a, l = [a]) ∨ (∃ a b, l = [a, b]) ∨ (∃ a b c, l = [a, b, c]) ∨ (∃ a b c d, l = [a, b, c, d]) ∨ (∃ a b c d e, l = [a, b, c, d, e]) := by
  match l, h1, h5 with
  | [a], _, _ => exact .inl ⟨a, rfl⟩
  | [a, b], _, _ => exact .inr (.inl ⟨a, b, rfl⟩)
  | [a, b, c], _, _ => exact .inr (.inr (.inl ⟨a, b, c, rfl⟩))
  | [a, b, c, d], _, _ => exact .inr (.inr (.inr (.inl ⟨a, b, c, d, rfl⟩)))
  | [a, b, c, d, e], _, _ => exact .inr (.inr (.inr (.inr ⟨a, b, c, d, e, rfl⟩)))
  | _ :: _ :: _ :: _ :: _ :: _ :: _, _, h => simp only [List.length_cons] at h; omega

theorem su0P {lt : Value → Value → Bool} {K : Value → Int} {l : List Value} (h1 : 1 ≤ l.length) (h5 : l.length ≤ 5) (hk : ∀ v ∈ l, ∀ u ∈ l, lt v u = decide (K v < K u)) (hs : HS K l) :
    HP K (siftupA lt l.toArray 0).toList ∧ (siftupA lt l.toArray 0).toList.Perm l := by
  rcases list_cases h1 h5 with ⟨a, rfl⟩ | ⟨a, b, rfl⟩ | ⟨a, b, c, rfl⟩ | ⟨a, b, c, d, rfl⟩ | ⟨a, b, c, d, e, rfl⟩
  · rw [show [a].toArray = #[a] from rfl, su0_1]
    exact ⟨trivial, .refl _⟩
  · rw [show [a, b].toArray = #[a, b] from rfl, su0_2, hk a (by simp) b (by simp)]
    by_cases q : K a < K b
    · simp only [q, decide_true, if_true]
      exact ⟨(by unfold HP; omega), .refl _⟩
    · simp only [q, decide_false, Bool.false_eq_true, if_false]
      exact ⟨(by unfold HP; omega), .swap _ _ _⟩
  · rw [show [a, b, c].toArray = #[a, b, c] from rfl, su0_3, hk b (by simp) c (by simp), hk a (by simp) b (by simp), hk a (by simp) c (by simp)]
    by_cases q : K b < K c <;> by_cases q1 : K a < K b <;> by_cases q2 : K a < K c <;> simp only [q, q1, q2, decide_true, decide_false, Bool.false_eq_true, if_true, if_false] <;>
      refine ⟨(by unfold HP; omega), ?_⟩ <;>
      first | exact .refl _ | exact permOf (at5 a b c c c) [1, 0, 2] [0, 1, 2] (by decide) | exact permOf (at5 a b c c c) [2, 1, 0] [0, 1, 2] (by decide)
  · rw [show [a, b, c, d].toArray = #[a, b, c, d] from rfl, su0_4, hk b (by simp) c (by simp), hk a (by simp) b (by simp), hk a (by simp) c (by simp), hk a (by simp) d (by simp)]
    unfold HS at hs
    by_cases q : K b < K c <;> by_cases q1 : K a < K b <;> by_cases q2 : K a < K c <;> by_cases q3 : K a < K d <;> simp only [q, q1, q2, q3, decide_true, decide_false, Bool.false_eq_true, if_true, if_false] <;>
      refine ⟨(by unfold HP; omega), ?_⟩ <;>
      first | exact .refl _ | exact permOf (at5 a b c d d) [1, 0, 2, 3] [0, 1, 2, 3] (by decide) | exact permOf (at5 a b c d d) [2, 1, 0, 3] [0, 1, 2, 3] (by decide) | exact permOf (at5 a b c d d) [1, 3, 2, 0] [0, 1, 2, 3] (by decide)
  · rw [show [a, b, c, d, e].toArray = #[a, b, c, d, e] from rfl, su0_5, hk b (by simp) c (by simp), hk a (by simp) b (by simp), hk a (by simp) c (by simp), hk a (by simp) d (by simp), hk a (by simp) e (by simp), hk d (by simp) e (by simp)]
    unfold HS at hs
    by_cases q : K b < K c <;> by_cases q1 : K a < K b <;> by_cases q2 : K a < K c <;> by_cases q3 : K a < K d <;> by_cases q4 : K a < K e <;> by_cases q5 : K d < K e <;> simp only [q, q1, q2, q3, q4, q5, decide_true, decide_false, Bool.false_eq_true, if_true, if_false] <;>
      refine ⟨(by unfold HP; omega), ?_⟩ <;>
      first | exact .refl _ | exact permOf (at5 a b c d e) [1, 0, 2, 3, 4] [0, 1, 2, 3, 4] (by decide) | exact permOf (at5 a b c d e) [2, 1, 0, 3, 4] [0, 1, 2, 3, 4] (by decide) | exact permOf (at5 a b c d e) [1, 3, 2, 0, 4] [0, 1, 2, 3, 4] (by decide)  | exact permOf (at5 a b c d e) [1, 4, 2, 3, 0] [0, 1, 2, 3, 4] (by decide)

theorem hify1 {lt : Value → Value → Bool} (xs : Array Value) : heapifyA lt 1 xs = siftupA lt xs 0 := by simp [heapifyA]
theorem hify2 {lt : Value → Value → Bool} (xs : Array Value) : heapifyA lt 2 xs = siftupA lt (siftupA lt xs 1) 0 := by simp [heapifyA]
theorem heapifyP {lt : Value → Value → Bool} {K : Value → Int} {l : List Value} (h1 : 3 ≤ l.length) (h5 : l.length ≤ 5) (hk : ∀ v ∈ l, ∀ u ∈ l, lt v u = decide (K v < K u)) :
    HP K (heapifyA lt (l.length / 2) l.toArray).toList ∧ (heapifyA lt (l.length / 2) l.toArray).toList.Perm l := by
  rcases list_cases (by omega) h5 with ⟨a, rfl⟩ | ⟨a, b, rfl⟩ | ⟨a, b, c, rfl⟩ | ⟨a, b, c, d, rfl⟩ | ⟨a, b, c, d, e, rfl⟩
  · simp at h1
  · simp at h1
  · rw [show [a, b, c].length / 2 = 1 by simp, hify1]; exact su0P (by simp) (by simp) hk trivial
  · have e1 : ∀ v : List Value, (v = [a, b, c, d] ∨ v = [a, d, c, b]) → v.Perm [a, b, c, d] := by
      rintro v (rfl | rfl)
      · exact .refl _
      · exact permOf (at5 a b c d d) [0, 3, 2, 1] [0, 1, 2, 3] (by decide)
    have key : ∃ v : List Value, siftupA lt #[a, b, c, d] 1 = v.toArray ∧ (v = [a, b, c, d] ∨ v = [a, d, c, b]) ∧ HS K v := by
      rw [su1_4, hk b (by simp) d (by simp)]
      by_cases q : K b < K d
      · simp only [q, decide_true, if_true]; exact ⟨[a, b, c, d], rfl, .inl rfl, by unfold HS; omega⟩
      · simp only [q, decide_false, Bool.false_eq_true, if_false]; exact ⟨[a, d, c, b], rfl, .inr rfl, by unfold HS; omega⟩
    obtain ⟨v, ev, hv, hS⟩ := key
    have pv := e1 v hv
    have := su0P (lt := lt) (K := K) (l := v) (by rw [pv.length_eq]; simp) (by rw [pv.length_eq]; simp) (fun x hx y hy => hk x (pv.mem_iff.mp hx) y (pv.mem_iff.mp hy)) hS
    have e2 : heapifyA lt ([a, b, c, d].length / 2) [a, b, c, d].toArray = siftupA lt v.toArray 0 := by
      rw [show [a, b, c, d].length / 2 = 2 by simp, hify2, show [a, b, c, d].toArray = #[a, b, c, d] from rfl, ev]
    rw [e2]
    exact ⟨this.1, this.2.trans pv⟩
  · have key : ∃ v : List Value, siftupA lt #[a, b, c, d, e] 1 = v.toArray ∧ v.Perm [a, b, c, d, e] ∧ HS K v := by
      rw [su1_5, hk b (by simp) d (by simp), hk d (by simp) e (by simp), hk b (by simp) e (by simp)]
      by_cases q : K b < K d <;> by_cases q1 : K d < K e <;> by_cases q2 : K b < K e <;> simp only [q, q1, q2, decide_true, decide_false, Bool.false_eq_true, if_true, if_false] <;>
        first | exact ⟨[a, b, c, d, e], rfl, .refl _, by unfold HS; omega⟩ | exact ⟨[a, d, c, b, e], rfl, permOf (at5 a b c d e) [0, 3, 2, 1, 4] [0, 1, 2, 3, 4] (by decide), by unfold HS; omega⟩  | exact ⟨[a, e, c, d, b], rfl, permOf (at5 a b c d e) [0, 4, 2, 3, 1] [0, 1, 2, 3, 4] (by decide), by unfold HS; omega⟩
    obtain ⟨v, ev, pv, hS⟩ := key
    have := su0P (lt := lt) (K := K) (l := v) (by rw [pv.length_eq]; simp) (by rw [pv.length_eq]; simp) (fun x hx y hy => hk x (pv.mem_iff.mp hx) y (pv.mem_iff.mp hy)) hS
    have e2 : heapifyA lt ([a, b, c, d, e].length / 2) [a, b, c, d, e].toArray = siftupA lt v.toArray 0 := by
      rw [show [a, b, c, d, e].length / 2 = 2 by simp, hify2, show [a, b, c, d, e].toArray = #[a, b, c, d, e] from rfl, ev]
    rw [e2]
    exact ⟨this.1, this.2.trans pv⟩

theorem popP {lt : Value → Value → Bool} {K : Value → Int} {l : List Value} (h1 : 2 ≤ l.length) (h5 : l.length ≤ 5) (hk : ∀ v ∈ l, ∀ u ∈ l, lt v u = decide (K v < K u)) (hp : HP K l) :
    HP K (popA lt l.toArray).toList ∧ (l.headD .none :: (popA lt l.toArray).toList).Perm l := by
  rcases list_cases (by omega) h5 with ⟨a, rfl⟩ | ⟨a, b, rfl⟩ | ⟨a, b, c, rfl⟩ | ⟨a, b, c, d, rfl⟩ | ⟨a, b, c, d, e, rfl⟩
  · simp at h1
  · have e : popA lt [a, b].toArray = siftupA lt [b].toArray 0 := by unfold popA; simp
    rw [e]
    have := su0P (lt := lt) (K := K) (l := [b]) (by simp) (by simp) (fun x hx y hy => hk x (by simp_all) y (by simp_all)) trivial
    exact ⟨this.1, this.2.cons _⟩
  · have e : popA lt [a, b, c].toArray = siftupA lt [c, b].toArray 0 := by unfold popA; simp
    rw [e]
    have hq : List.Perm [c, b] [b, c] := permOf (at5 b c c c c) [1, 0] [0, 1] (by decide)
    have := su0P (lt := lt) (K := K) (l := [c, b]) (by simp) (by simp) (fun x hx y hy => hk x (List.mem_cons_of_mem a (hq.mem_iff.mp hx)) y (List.mem_cons_of_mem a (hq.mem_iff.mp hy))) trivial
    exact ⟨this.1, (this.2.cons a).trans (permOf (at5 a b c c c) [0, 2, 1] [0, 1, 2] (by decide))⟩
  · have e : popA lt [a, b, c, d].toArray = siftupA lt [d, b, c].toArray 0 := by unfold popA; simp
    rw [e]
    have hq : List.Perm [d, b, c] [b, c, d] := permOf (at5 b c d d d) [2, 0, 1] [0, 1, 2] (by decide)
    have := su0P (lt := lt) (K := K) (l := [d, b, c]) (by simp) (by simp) (fun x hx y hy => hk x (List.mem_cons_of_mem a (hq.mem_iff.mp hx)) y (List.mem_cons_of_mem a (hq.mem_iff.mp hy))) trivial
    exact ⟨this.1, (this.2.cons a).trans (permOf (at5 a b c d d) [0, 3, 1, 2] [0, 1, 2, 3] (by decide))⟩
  · have e0 : popA lt [a, b, c, d, e].toArray = siftupA lt [e, b, c, d].toArray 0 := by unfold popA; simp
    rw [e0]
    unfold HP at hp
    have hq : List.Perm [e, b, c, d] [b, c, d, e] := permOf (at5 b c d e e) [3, 0, 1, 2] [0, 1, 2, 3] (by decide)
    have := su0P (lt := lt) (K := K) (l := [e, b, c, d]) (by simp) (by simp) (fun x hx y hy => hk x (List.mem_cons_of_mem a (hq.mem_iff.mp hx)) y (List.mem_cons_of_mem a (hq.mem_iff.mp hy))) (by unfold HS; omega)
    exact ⟨this.1, (this.2.cons a).trans (permOf (at5 a b c d e) [0, 4, 1, 2, 3] [0, 1, 2, 3, 4] (by decide))⟩

theorem replP {lt : Value → Value → Bool} {K : Value → Int} {l : List Value} {v : Value} (h1 : 1 ≤ l.length) (h5 : l.length ≤ 5) (hk : ∀ x ∈ v :: l, ∀ u ∈ v :: l, lt x u = decide (K x < K u)) (hp : HP K l) :
    HP K (replA lt l.toArray v).toList ∧ (replA lt l.toArray v).toList.Perm (v :: l.tail) := by
  have hl : l.toArray.setIfInBounds 0 v = (v :: l.tail).toArray := by
    match l, h1 with
    | a :: r, _ => simp
  have hs : HS K (v :: l.tail) := by
    have := hp.sub
    rcases list_cases (by omega) h5 with ⟨a, rfl⟩ | ⟨a, b, rfl⟩ | ⟨a, b, c, rfl⟩ | ⟨a, b, c, d, rfl⟩ | ⟨a, b, c, d, e, rfl⟩ <;> exact this
  unfold replA
  rw [hl]
  refine su0P (by simp) (by simp; omega) (fun x hx y hy => hk x ?_ y ?_) hs
  · rcases List.mem_cons.mp hx with rfl | hx
    · exact List.mem_cons_self
    · exact List.mem_cons_of_mem _ (List.mem_of_mem_tail hx)
  · rcases List.mem_cons.mp hy with rfl | hy
    · exact List.mem_cons_self
    · exact List.mem_cons_of_mem _ (List.mem_of_mem_tail hy)
theorem HP.least {K : Value → Int} {l : List Value} (h1 : 1 ≤ l.length) (h5 : l.length ≤ 5) (hp : HP K l) : ∀ v ∈ l, K (l.headD .none) ≤ K v := by
  rcases list_cases (by omega) h5 with ⟨a, rfl⟩ | ⟨a, b, rfl⟩ | ⟨a, b, c, rfl⟩ | ⟨a, b, c, d, rfl⟩ | ⟨a, b, c, d, e, rfl⟩ <;> unfold HP at hp <;> intro v hv <;> simp only [List.mem_cons, List.not_mem_nil, or_false] at hv <;> simp only [List.headD_cons]
  · rw [hv]; omega
  · rcases hv with hv | hv <;> rw [hv] <;> omega
  · rcases hv with hv | hv | hv <;> rw [hv] <;> omega
  · rcases hv with hv | hv | hv | hv <;> rw [hv] <;> omega
  · rcases hv with hv | hv | hv | hv | hv <;> rw [hv] <;> omega
end Mine
end P_HeapL

/-! Nst -/
section P_Nst
open PySem PySem.W PySem.Calls PyProof.Rows
namespace Mine

section
variable {prog : Program} {w : World} {A : Around} {E : Value → Shared → Prop} {s : Shared} {mg mb : Str → Option Value} {g : Heap}

/-- a call of a K function whose parameters may lie in cells -/
theorem callC {a : Addr} {name qual : Str} {params : Arguments} {body : List Stmt} {scope : Scope} {dV kV doc pm cdv ct oc : Value} {an od : Option Addr} {osl : Array (Option Value)}
    {args : List Value} {binds : List (Str × Value)} {Q : Value → Shared → Prop} (G : Gd w mg mb s.heap)
    (ho : (KK w).lookup a = some ⟨oc, od, .func (fnOf name qual params body scope dV kV doc pm an cdv ct), osl⟩) (hcd : codeIn (KK w) cdv qual = true) (hroom : A.depth < recursionLimit)
    (hbind : bindArgs (fnOf name qual params body scope dV kV doc pm an cdv ct) ⟨args, []⟩ = pure binds)
    (hkind : ∀ x ∈ binds, scope.names.lookup x.1 = some .local ∨ (scope.names.lookup x.1 = some .cell ∧ ((cellsFrom (s.heap.objs.size + 1) scope.names []).lookup x.1).isSome = true))
    (hco : scope.isCoroutine = false) (hgen : scope.isGenerator = false) (hk : scope.kind = .function)
    (h : ∀ h₁ L tk, L = s.heap.objs.size → Fr s.heap L h₁ (bindL (envOfC qual scope L a cdv).kindOf binds fun _ => none) → Cl L (cellsFrom (L + 1) scope.names []) h₁ (bindC (envOfC qual scope L a cdv).kindOf binds fun _ => none) →
      wpAny (model prog w) (A.deeper (envOfC qual scope L a cdv)) (execs body (envOfC qual scope L a cdv)) (fun f s' => Q (match f with | .ret v => v | _ => .none) s') (fun _ _ => False) { s with heap := h₁, toks := tk }) :
    wpAny (model prog w) A (call (.ref a) args) Q E s := by
  refine wpAny_call (codeAny_call_cells hroom (G.K _ _ ho) rfl G.lim (codeRec_of G.K hcd) rfl hbind rfl hkind (fun s₁ X => ?_) hco hgen hk)
  obtain ⟨h₁, tk, rfl, _⟩ := X.done
  exact wpAny_mono (h h₁ _ tk rfl ⟨X.toInCall.ns, X.toInCall.keep, X.toInCall.fresh⟩ ⟨X.cell, X.apart, X.above⟩) (fun _ _ x => x) fun _ _ x => x.elim

/-- the frame's names, one cell, two lists -/
structure NS (b : Heap) (L c D P : Addr) (cv : Value) (h : Heap) (m : Str → Option Value) (xs ps : Array Value) : Prop where
  F : Fr b L h m
  cell : h.IsCell c (some cv)
  hD : h.PlainList D xs
  hP : h.PlainList P ps
  DP : D ≠ P
  cb : b.get? c = none
  Db : b.get? D = none
  Pb : b.get? P = none

theorem cell_ns {h : Heap} {c L : Addr} {v : Option Value} {m : Str → Option Value} (x : h.IsCell c v) (y : h.Ns L m) : c ≠ L := by
  rintro rfl
  obtain ⟨o, e, d⟩ := x
  obtain ⟨o', _, _, e', d', _⟩ := y
  rw [e] at e'; cases e'; rw [d] at d'; cases d'
theorem list_ns {h : Heap} {l L : Addr} {xs : Array Value} {m : Str → Option Value} (x : h.PlainList l xs) (y : h.Ns L m) : l ≠ L := by
  rintro rfl
  obtain ⟨n, e⟩ := x
  obtain ⟨o', _, _, e', d', _⟩ := y
  rw [e] at e'; cases e'; cases d'
theorem list_cell {h : Heap} {l c : Addr} {xs : Array Value} {v : Option Value} (x : h.PlainList l xs) (y : h.IsCell c v) : l ≠ c := by
  rintro rfl
  obtain ⟨n, e⟩ := x
  obtain ⟨o', e', d'⟩ := y
  rw [e] at e'; cases e'; cases d'

variable {b h h' : Heap} {L c D P : Addr} {cv : Value} {m : Str → Option Value} {xs ps : Array Value}
theorem NS.kept (X : NS b L c D P cv h m xs ps) (hk : ∀ a o, h.get? a = some o → h'.get? a = some o) : NS b L c D P cv h' m xs ps :=
  ⟨X.F.keeps hk, X.cell.keeps hk, X.hD.at fun o e => hk _ o e, X.hP.at fun o e => hk _ o e, X.DP, X.cb, X.Db, X.Pb⟩
theorem Fr.but {z : Addr} (F : Fr b L h m) (hz : b.get? z = none) (hL : L ≠ z) (hk : ∀ a o, a ≠ z → h.get? a = some o → h'.get? a = some o) : Fr b L h' m :=
  ⟨F.ns.at' fun o e => hk L o hL e, fun a o e => hk a o (fun q => by rw [q, hz] at e; cases e) (F.keep a o e), F.above⟩
theorem cell_but {z : Addr} {v : Option Value} (x : h.IsCell c v) (hz : c ≠ z) (hk : ∀ a o, a ≠ z → h.get? a = some o → h'.get? a = some o) : h'.IsCell c v :=
  let ⟨o, e, d⟩ := x; ⟨o, hk c o hz e, d⟩
theorem NS.turnD {xs' : Array Value} (X : NS b L c D P cv h m xs ps) (hl : h'.PlainList D xs') (hk : ∀ a o, a ≠ D → h.get? a = some o → h'.get? a = some o) : NS b L c D P cv h' m xs' ps :=
  ⟨Fr.but X.F X.Db (Ne.symm (list_ns X.hD X.F.ns)) hk, cell_but X.cell (Ne.symm (list_cell X.hD X.cell)) hk, hl, X.hP.at fun o e => hk _ o (Ne.symm X.DP) e, X.DP, X.cb, X.Db, X.Pb⟩
theorem NS.turnP {ps' : Array Value} (X : NS b L c D P cv h m xs ps) (hl : h'.PlainList P ps') (hk : ∀ a o, a ≠ P → h.get? a = some o → h'.get? a = some o) : NS b L c D P cv h' m xs ps' :=
  ⟨Fr.but X.F X.Pb (Ne.symm (list_ns X.hP X.F.ns)) hk, cell_but X.cell (Ne.symm (list_cell X.hP X.cell)) hk, X.hD.at fun o e => hk _ o X.DP e, hl, X.DP, X.cb, X.Db, X.Pb⟩
theorem NS.but {z : Addr} (X : NS b L c D P cv h m xs ps) (hz : b.get? z = none) (hL : L ≠ z) (hc : c ≠ z) (hD : D ≠ z) (hP : P ≠ z) (hk : ∀ a o, a ≠ z → h.get? a = some o → h'.get? a = some o) : NS b L c D P cv h' m xs ps :=
  ⟨Fr.but X.F hz hL hk, cell_but X.cell hc hk, X.hD.at fun o e => hk _ o hD e, X.hP.at fun o e => hk _ o hP e, X.DP, X.cb, X.Db, X.Pb⟩

variable {M : Model} {name : Str} {scope : Scope} {a : Addr} {cd : Value}
theorem NS.st {x : Str} {v : Value} {Q : Unit → Shared → Prop} (X : NS b L c D P cv s.heap m xs ps) (h : ∀ h', NS b L c D P cv h' (fun y => if y = x then some v else m y) xs ps → (∀ z o, z ≠ L → s.heap.get? z = some o → h'.get? z = some o) → Q () { s with heap := h', toks := s.toks + 1 })
    (hk : scope.kind = .function) (hl : (envOfC name scope L a cd).kindOf x = some .local) : wpAny M A (storeName (envOfC name scope L a cd) x v) Q E s :=
  wpAny_storeName_local hl X.F.ns (fun h' hn hs => h h' ⟨X.F.set hn hs, cell_but X.cell (cell_ns X.cell X.F.ns) fun z o hz e => hs.extBut z o hz e, X.hD.extBut hs.extBut (list_ns X.hD X.F.ns), X.hP.extBut hs.extBut (list_ns X.hP X.F.ns), X.DP, X.cb, X.Db, X.Pb⟩ fun z o hz e => hs.extBut z o hz e)
    (by show (scope.kind == .class || (scope.kind == .module && L != mainGlobals)) = false; rw [hk]; rfl)
theorem NS.ld {x : Str} {pos : Pos} {v : Value} {Q : Value → Shared → Prop} (X : NS b L c D P cv s.heap m xs ps) (hv : m x = some v) (h : Q v s)
    (hk : scope.kind = .function) (hl : (envOfC name scope L a cd).kindOf x = some .local) (hd : (x == ("__debug__" : Str)) = false) : wpAny M A (eval (.Name x pos) (envOfC name scope L a cd)) Q E s := ldLoc X.F hv h hk hl hd
theorem ldCell {env : Env} {x : Str} {pos : Pos} {v : Value} {Q : Value → Shared → Prop} (X : s.heap.IsCell c (some v)) (h : Q v s)
    (hk : env.scope.kind = .function) (hl : env.kindOf x = some .cell) (hc : env.cells.lookup x = some c) (hd : (x == ("__debug__" : Str)) = false) : wpAny M A (eval (.Name x pos) env) Q E s :=
  wpAny_Name (wpAny_loadName_cell hk hl hc X h) hd
end

section
variable {prog : Program} {w : World} {A : Around} {s : Shared} {h₀ : Heap} {L : Addr} {m : Str → Option Value} {env : Env}
open LCg in
/-- the turns of a comprehension, by an invariant -/
theorem rest_of {elt : Expr} {x : Str} {scope : Scope} {cl : List (Str × Addr)} {S : List (Addr × Obj) → Prop} {Pv : Nat → Value → Prop} {Fin : List Value → List (Addr × Obj) → Prop} (Inv : Nat → List Value → List (Addr × Obj) → Prop) (n : Nat)
    (step : ∀ i ys news, i < n → Inv i ys news → ∀ v I oI C oC D m₂ h tk (E' : Value → Shared → Prop), Pv i v → NsObj oC m₂ → m₂ x = some v → Fr h₀ L h m → News h₀ L h ((I, oI) :: (C, oC) :: (D, lst ys) :: news) → Off3 I C D news → ((@Ne Nat I C) ∧ (@Ne Nat I D) ∧ (@Ne Nat C D)) →
      wpAny (model prog w) A (eval elt (compEnvC scope cl C env)) (CompEnd h₀ L m { s with heap := h, toks := tk } I oI C oC D (lst ys) S (fun y news' => Inv (i + 1) (ys ++ [y]) news')) E' { s with heap := h, toks := tk })
    (fin : ∀ ys news, Inv n ys news → Fin ys news) : ∀ k i ys news, i + k = n → Inv i ys news → CompRest prog w A h₀ L m env elt x scope cl s S Pv Fin k i ys news
  | 0, i, ys, news, e, hi => CompRest.zero (fin ys news (by rw [Nat.add_zero] at e; rw [← e]; exact hi))
  | k + 1, i, ys, news, e, hi => CompRest.succ fun v I oI C oC D m₂ h tk E' hv hn hm F N o1 o2 => by
      refine wpAny_mono (step i ys news (by omega) hi v I oI C oC D m₂ h tk E' hv hn hm F N o1 o2) (fun y s' hy => ?_) fun _ _ z => z
      obtain ⟨h', tk', news', es, F', N', o', hS, hr⟩ := hy
      exact ⟨h', tk', news', es, F', N', o', hS, rest_of Inv n step fin k (i + 1) _ _ (by omega) hr⟩
end
end Mine
end P_Nst

/-! Gre -/
section P_Gre
open PySem PySem.W PySem.Calls PyProof.Rows
namespace Mine

/-- the entry that a value stands for in a heap -/
def entOf (h : Heap) : Value → Ent
  | .ref a => match h.get? a with
    | some ⟨_, _, .seq #[.int m _, .int p _, .str x _] _, _⟩ => ⟨m, p, x⟩
    | _ => ⟨0, 0, Str.empty⟩
  | _ => ⟨0, 0, Str.empty⟩
theorem entOf_eq {h : Heap} {a : Addr} {e : Ent} (x : IsEnt h a e) : entOf h (.ref a) = e := by
  obtain ⟨t1, t2, t3, g⟩ := x
  unfold entOf
  dsimp only
  rw [g]
  rfl
def key (e : Ent) : Int := e.m * 1000 + e.p
def mkE (a b : Ent) (p : Int) : Ent := ⟨marks (lineOf a.x b.x), p, lineOf a.x b.x⟩
/-- the places are apart, and below p -/
def PD (p : Int) (es : List Ent) : Prop := (∀ e ∈ es, 0 ≤ e.p ∧ e.p < p) ∧ es.Pairwise (fun a b => a.p ≠ b.p)
theorem PD.perm {p : Int} {es fs : List Ent} (h : PD p es) (hp : es.Perm fs) : PD p fs :=
  ⟨fun e he => h.1 e (hp.mem_iff.mpr he), h.2.perm hp fun hxy => Ne.symm hxy⟩
theorem PD.eq {p : Int} {es : List Ent} (h : PD p es) (hp : p ≤ 1000) {a b : Ent} (ha : a ∈ es) (hb : b ∈ es) (hk : key a = key b) : a = b := by
  have h1 := h.1 a ha
  have h2 := h.1 b hb
  have e : a.p = b.p := by unfold key at hk; omega
  clear h1 h2 hk
  have := h.2
  induction es with
  | nil => cases ha
  | cons c r ih =>
    have hr := List.pairwise_cons.mp this
    rcases List.mem_cons.mp ha with rfl | ha'
    · rcases List.mem_cons.mp hb with rfl | hb'
      · rfl
      · exact absurd e (hr.1 b hb')
    · rcases List.mem_cons.mp hb with rfl | hb'
      · exact absurd e.symm (hr.1 a ha')
      · exact ih ⟨fun z hz => h.1 z (List.mem_cons_of_mem _ hz), hr.2⟩ ha' hb' hr.2
theorem PD.tail {p : Int} {e : Ent} {es : List Ent} (h : PD p (e :: es)) : PD p es := ⟨fun z hz => h.1 z (List.mem_cons_of_mem _ hz), (List.pairwise_cons.mp h.2).2⟩
theorem PD.next {p : Int} {es : List Ent} (h : PD p es) (hp : 0 ≤ p) {e : Ent} (he : e.p = p) : PD (p + 1) (e :: es) := by
  refine ⟨fun z hz => ?_, List.pairwise_cons.mpr ⟨fun z hz => ?_, h.2⟩⟩
  · rcases List.mem_cons.mp hz with rfl | hz
    · omega
    · have := h.1 z hz; omega
  · have := h.1 z hz; omega
theorem ltE_key {p : Int} {es : List Ent} (h : PD p es) (hp : p ≤ 1000) {a b : Ent} (ha : a ∈ es) (hb : b ∈ es) : ltE a b = decide (key a < key b) := by
  have h1 := h.1 a ha
  have h2 := h.1 b hb
  by_cases e : key a = key b
  · have := h.eq hp ha hb e
    subst this
    simp [ltE]
  · unfold ltE
    have e' : a.p = b.p → a.m ≠ b.m := fun q q' => e (by unfold key; rw [q, q'])
    by_cases hm : a.m = b.m
    · rw [if_pos hm, if_neg (fun q => e' q hm)]
      unfold key
      rw [decide_eq_decide]
      omega
    · rw [if_neg hm]
      unfold key
      rw [decide_eq_decide]
      omega

/-- the two least of what is left go together, again and again -/
inductive Gr : Int → List Ent → List (Ent × Ent) → Ent → Prop
  | one (p : Int) (e : Ent) : Gr p [e] [] e
  | step {p : Int} {es : List Ent} {a b : Ent} {r : List Ent} {ps : List (Ent × Ent)} {last : Ent} : es.Perm (a :: b :: r) → (∀ x ∈ b :: r, key a ≤ key x) → (∀ x ∈ r, key b ≤ key x) →
      Gr (p + 1) (mkE a b p :: r) ps last → Gr p es ((a, b) :: ps) last

theorem Gr.unique {p : Int} {es fs : List Ent} {ps qs : List (Ent × Ent)} {l k : Ent} (h : Gr p es ps l) (h' : Gr p fs qs k) (hp : es.Perm fs) (hd : PD p es) (h0 : 0 ≤ p) (hz : p + es.length ≤ 1000) : ps = qs ∧ l = k := by
  induction h generalizing fs qs k with
  | one p e =>
    cases h' with
    | one p e' =>
      have := List.perm_singleton.mp hp.symm
      cases this; exact ⟨rfl, rfl⟩
    | step hq _ _ _ =>
      have := (hp.trans hq).length_eq
      simp at this
  | @step p es a b r ps l hq ha hb hg ih =>
    cases h' with
    | one p e' =>
      have := (hq.symm.trans hp).length_eq
      simp at this
    | @step _ _ a' b' r' ps' _ hq' ha' hb' hg' =>
      have hlen : p ≤ 1000 := by omega
      have hab : (a :: b :: r).Perm (a' :: b' :: r') := hq.symm.trans (hp.trans hq')
      have hd1 := hd.perm hq
      have e1 : a = a' := by
        have m' : a' ∈ a :: b :: r := hab.mem_iff.mpr List.mem_cons_self
        have m : a ∈ a' :: b' :: r' := hab.mem_iff.mp List.mem_cons_self
        have k1 : key a ≤ key a' := by
          rcases List.mem_cons.mp m' with q | q
          · rw [q]; exact Int.le_refl _
          · exact ha _ q
        have k2 : key a' ≤ key a := by
          rcases List.mem_cons.mp m with q | q
          · rw [q]; exact Int.le_refl _
          · exact ha' _ q
        exact hd1.eq hlen List.mem_cons_self m' (by omega)
      subst e1
      have hbr : (b :: r).Perm (b' :: r') := hab.cons_inv
      have hd2 := hd1.tail
      have e2 : b = b' := by
        have m' : b' ∈ b :: r := hbr.mem_iff.mpr List.mem_cons_self
        have m : b ∈ b' :: r' := hbr.mem_iff.mp List.mem_cons_self
        have k1 : key b ≤ key b' := by
          rcases List.mem_cons.mp m' with q | q
          · rw [q]; exact Int.le_refl _
          · exact hb _ q
        have k2 : key b' ≤ key b := by
          rcases List.mem_cons.mp m with q | q
          · rw [q]; exact Int.le_refl _
          · exact hb' _ q
        exact hd2.eq hlen List.mem_cons_self m' (by omega)
      subst e2
      have hr : r.Perm r' := hbr.cons_inv
      have hl := hq.length_eq
      simp only [List.length_cons] at hl
      have := ih hg' (hr.cons _) (hd2.tail.next h0 rfl) (by omega) (by simp only [List.length_cons]; omega)
      rw [this.1, this.2]
      exact ⟨rfl, rfl⟩

/-- the first entries -/
def strOf : Value → Str
  | .str x _ => x
  | _ => Str.empty
def ent0 (ws : List Value) : List Ent := ws.mapIdx fun i v => ⟨marks (strOf v), (i : Int), strOf v⟩
theorem ent0_len (ws : List Value) : (ent0 ws).length = ws.length := by simp [ent0]
theorem ent0_pd (ws : List Value) : PD ws.length (ent0 ws) := by
  constructor
  · intro e he
    obtain ⟨i, hi, rfl⟩ := List.mem_mapIdx.mp he
    simp only
    omega
  · rw [List.pairwise_iff_getElem]
    intro i j hi hj hij
    simp only [ent0, List.getElem_mapIdx]
    omega

/-- tuples stay -/
def TK (h h' : Heap) : Prop := ∀ a o, h.get? a = some o → o.cls = .type "tuple" → (∃ xs n, o.data = .seq xs n) → h'.get? a = some o
theorem TK.trans {h h' h'' : Heap} (x : TK h h') (y : TK h' h'') : TK h h'' := fun a o e c d => y a o (x a o e c d) c d
theorem TK.all {h h' : Heap} (hk : ∀ a o, h.get? a = some o → h'.get? a = some o) : TK h h' := fun a o e _ _ => hk a o e
theorem TK.list {h h' : Heap} {l : Addr} {xs : Array Value} (hl : h.PlainList l xs) (hk : ∀ a o, a ≠ l → h.get? a = some o → h'.get? a = some o) : TK h h' := fun a o e c _ => hk a o (fun q => by
  obtain ⟨n, e'⟩ := hl
  rw [q, e'] at e; cases e; have c' : Value.type "list" = Value.type "tuple" := c; exact absurd (Value.type.inj c') (by decide)) e
theorem TK.ns {h h' : Heap} {L : Addr} {m : Str → Option Value} (hn : h.Ns L m) (hk : ∀ a o, a ≠ L → h.get? a = some o → h'.get? a = some o) : TK h h' := fun a o e _ d => hk a o (fun q => by
  obtain ⟨o', _, _, e', d', _⟩ := hn
  rw [q, e'] at e; cases e
  obtain ⟨_, _, d⟩ := d
  rw [d'] at d; cases d) e
theorem TK.tb {h h' : Heap} (T : Tb h) (hk : ∀ a o, a ≠ 38 → h.get? a = some o → h'.get? a = some o) : TK h h' := fun a o e c _ => hk a o (fun q => by
  obtain ⟨_, _, hT, _⟩ := T
  rw [q, hT.2] at e; cases e; cases c) e
theorem IsEnt.tk {h h' : Heap} {a : Addr} {e : Ent} (x : IsEnt h a e) (hk : TK h h') : IsEnt h' a e := let ⟨t1, t2, t3, g⟩ := x; ⟨t1, t2, t3, hk _ _ g rfl ⟨_, _, rfl⟩⟩
theorem ents_move {h h' : Heap} {vs : List Value} (he : Ents h (entOf h) vs) (hk : TK h h') : Ents h' (entOf h') vs ∧ ∀ v ∈ vs, entOf h' v = entOf h v := by
  have e : ∀ v ∈ vs, entOf h' v = entOf h v := fun v hv => by
    obtain ⟨a, rfl, i⟩ := he v hv
    exact (entOf_eq (i.tk hk))
  exact ⟨fun v hv => by
    obtain ⟨a, rfl, i⟩ := he v hv
    exact ⟨a, rfl, by rw [e _ hv]; exact i.tk hk⟩, e⟩
/-- how long the texts are after k joins -/
def Bnd : Nat → Nat
  | 0 => 24
  | k + 1 => 10 * Bnd k + 5
theorem Bnd_le (k : Nat) : Bnd k ≤ Bnd (k + 1) := by show Bnd k ≤ 10 * Bnd k + 5; omega
/-- a tuple of two entries -/
def pairObj (a b : Value) : Obj := { cls := .type "tuple", data := .seq #[a, b] 0 }
def IsPair (h : Heap) (v : Value) (e : Ent × Ent) : Prop := ∃ a a1 a2, v = .ref a ∧ h.get? a = some (pairObj (.ref a1) (.ref a2)) ∧ IsEnt h a1 e.1 ∧ IsEnt h a2 e.2
inductive ArePairs (h : Heap) : List Value → List (Ent × Ent) → Prop
  | nil : ArePairs h [] []
  | snoc {vs v prs e} : ArePairs h vs prs → IsPair h v e → ArePairs h (vs ++ [v]) (prs ++ [e])
theorem IsPair.at {h h' : Heap} {v : Value} {e : Ent × Ent} (x : IsPair h v e) (hk : TK h h') : IsPair h' v e := by
  obtain ⟨a, a1, a2, e1, e2, ⟨t1, t2, t3, i1⟩, ⟨u1, u2, u3, i2⟩⟩ := x
  exact ⟨a, a1, a2, e1, hk _ _ e2 rfl ⟨_, _, rfl⟩, ⟨t1, t2, t3, hk _ _ i1 rfl ⟨_, _, rfl⟩⟩, ⟨u1, u2, u3, hk _ _ i2 rfl ⟨_, _, rfl⟩⟩⟩
theorem ArePairs.at {h h' : Heap} {vs : List Value} {prs : List (Ent × Ent)} (x : ArePairs h vs prs) (hk : TK h h') : ArePairs h' vs prs := by
  induction x with
  | nil => exact .nil
  | snoc _ hv ih => exact .snoc ih (hv.at hk)
theorem ArePairs.length {h : Heap} {vs : List Value} {prs : List (Ent × Ent)} (x : ArePairs h vs prs) : vs.length = prs.length := by
  induction x with
  | nil => rfl
  | snoc _ _ ih => simp [ih]
def IsTold (h : Heap) (a : Addr) (prs : List (Ent × Ent)) (last : Ent) : Prop :=
  ∃ P D vs v, h.get? a = some (pairObj (.ref P) (.ref D)) ∧ h.PlainList P vs ∧ ArePairs h vs.toList prs ∧ h.PlainList D #[.ref v] ∧ IsEnt h v last
end Mine
end P_Gre

/-! Stp -/
section P_Stp
open PySem PySem.W PySem.Calls PyProof.Rows
namespace Mine

theorem Gr.perm {p : Int} {es fs : List Ent} {ps : List (Ent × Ent)} {l : Ent} (h : Gr p es ps l) (hp : es.Perm fs) : Gr p fs ps l := by
  cases h with
  | one p e =>
    have := List.perm_singleton.mp hp.symm
    subst this; exact .one _ _
  | step hq ha hb hg => exact .step (hp.symm.trans hq) ha hb hg
theorem PD.le {p q : Int} {es : List Ent} (h : PD p es) (hq : p ≤ q) : PD q es := ⟨fun e he => by have := h.1 e he; omega, h.2⟩

theorem ltV_key {p : Int} {ent : Value → Ent} {xs : List Value} (h : PD p (xs.map ent)) (hp : p ≤ 1000) : ∀ v ∈ xs, ∀ u ∈ xs, ltV ent v u = decide (key (ent v) < key (ent u)) :=
  fun v hv u hu => ltE_key h hp (List.mem_map_of_mem hv) (List.mem_map_of_mem hu)

theorem HP.congr {K K' : Value → Int} {l : List Value} (hc : ∀ u ∈ l, K' u = K u) (h : HP K l) : HP K' l := by
  unfold HP at h ⊢
  split at h <;> simp_all

theorem greedy_step {xs : Array Value} {ent ent' : Value → Ent} {v : Value} {p : Int} (h2 : 2 ≤ xs.size) (h5 : xs.size ≤ 5) (hp : HP (fun v => key (ent v)) xs.toList) (hd : PD p (xs.toList.map ent)) (hp0 : 0 ≤ p) (hp9 : p ≤ 900)
    (agree : ∀ u ∈ xs.toList, ent' u = ent u) (hv : ent' v = mkE (ent (xs.getD 0 .none)) (ent ((popA (ltV ent) xs).getD 0 .none)) p) :
    HP (fun v => key (ent' v)) (replA (ltV ent') (popA (ltV ent) xs) v).toList ∧ PD (p + 1) ((replA (ltV ent') (popA (ltV ent) xs) v).toList.map ent') ∧
    (popA (ltV ent) xs).size = xs.size - 1 ∧ (replA (ltV ent') (popA (ltV ent) xs) v).size = xs.size - 1 ∧
    (∀ u ∈ (popA (ltV ent) xs).toList, u ∈ xs.toList) ∧ (∀ u ∈ (replA (ltV ent') (popA (ltV ent) xs) v).toList, u = v ∨ u ∈ xs.toList) ∧
    (∀ ps' last', Gr (p + 1) ((replA (ltV ent') (popA (ltV ent) xs) v).toList.map ent') ps' last' → Gr p (xs.toList.map ent) ((ent (xs.getD 0 .none), ent ((popA (ltV ent) xs).getD 0 .none)) :: ps') last') := by
  obtain ⟨l, rfl⟩ : ∃ l : List Value, xs = l.toArray := ⟨xs.toList, by simp⟩
  simp only [List.size_toArray] at h2 h5 hp hd agree hv ⊢
  obtain ⟨p1, p2⟩ := popP h2 h5 (ltV_key hd (by omega)) hp
  have e0 : l.toArray.getD 0 .none = l.headD .none := by
    match l, h2 with
    | a :: r, _ => rfl
  rw [e0] at hv ⊢
  generalize hxs1 : popA (ltV ent) l.toArray = xs1 at *
  obtain ⟨l1, rfl⟩ : ∃ l1 : List Value, xs1 = l1.toArray := ⟨xs1.toList, by simp⟩
  have hl1 : l1.length + 1 = l.length := by have := p2.length_eq; simpa using this
  match l1, hl1 with
  | [], hl1 => simp at hl1; omega
  | x1 :: r, hl1 =>
    have e1 : (x1 :: r).toArray.getD 0 .none = x1 := rfl
    rw [e1] at hv ⊢
    simp only at p1 p2
    have sub1 : ∀ u ∈ x1 :: r, u ∈ l := fun u hu => p2.mem_iff.mp (List.mem_cons_of_mem _ hu)
    have q2 : (ent (l.headD .none) :: ent x1 :: r.map ent).Perm (l.map ent) := p2.map ent
    have hd2 := hd.perm q2.symm
    have er : r.map ent' = r.map ent := List.map_congr_left fun u hu => agree u (sub1 u (List.mem_cons_of_mem _ hu))
    have ex1 : ent' x1 = ent x1 := agree x1 (sub1 x1 List.mem_cons_self)
    have hdn : PD (p + 1) (ent' v :: (x1 :: r).map ent') := by
      rw [List.map_cons, er, ex1]
      refine hd2.tail.next hp0 ?_
      rw [hv]; rfl
    have hHP' : HP (fun v => key (ent' v)) (x1 :: r) := by
      exact HP.congr (fun u hu => by rw [agree u (sub1 u hu)]) p1
    have hk : ∀ x ∈ v :: x1 :: r, ∀ u ∈ v :: x1 :: r, ltV ent' x u = decide (key (ent' x) < key (ent' u)) := ltV_key (p := p + 1) (by rw [List.map_cons]; exact hdn) (by omega)
    obtain ⟨r1, r2⟩ := replP (v := v) (by simp) (by simp only [List.length_cons] at hl1 ⊢; omega) hk hHP'
    rw [List.tail_cons] at r2
    have r3 : ((replA (ltV ent') (x1 :: r).toArray v).toList.map ent').Perm (ent' v :: r.map ent') := r2.map ent'
    refine ⟨r1, ?_, ?_, ?_, ?_, ?_, ?_⟩
    · refine PD.perm ?_ r3.symm
      rw [er]
      have := hd2.tail.tail
      exact this.next hp0 (by rw [hv]; rfl)
    · simp only [List.size_toArray]; omega
    · have := r2.length_eq
      simp only [Array.length_toList, List.length_cons] at this hl1
      omega
    · intro u hu; exact sub1 u hu
    · intro u hu
      rcases List.mem_cons.mp (r2.mem_iff.mp hu) with q | q
      · exact .inl q
      · exact .inr (sub1 u (List.mem_cons_of_mem _ q))
    · intro ps' last' hg
      refine .step q2.symm ?_ ?_ ((hv ▸ er ▸ hg.perm r3 : Gr (p + 1) (mkE (ent (l.headD .none)) (ent x1) p :: r.map ent) ps' last'))
      · intro x hx
        obtain ⟨u, hu, rfl⟩ : ∃ u ∈ x1 :: r, ent u = x := List.mem_map.mp hx
        exact HP.least (by omega) h5 hp u (sub1 u hu)
      · intro x hx
        obtain ⟨u, hu, rfl⟩ := List.mem_map.mp hx
        exact HP.least (l := x1 :: r) (by simp) (by simp only [List.length_cons] at hl1 ⊢; omega) p1 u (List.mem_cons_of_mem _ hu)
end Mine
end P_Stp

/-! Nest -/
section P_Nest
open PySem PySem.W PySem.Calls PyProof.Rows
namespace Mine
local macro_rules | `(tactic| walk_at "ld") => `(tactic| (((with_reducible refine' NS.ld (by assumption) ?mv ?_ ?mk ?ml ?md)); (case mv => first | exact rfl | assumption); (case mk => exact rfl); (case ml => exact rfl); (case md => decide)))
local macro_rules | `(tactic| walk_at "st") => `(tactic| ((with_reducible refine NS.st (by assumption) ?_ ?mk ?ml); (case mk => exact rfl); (case ml => exact rfl)))
local macro_rules | `(tactic| walk_at "1") => `(tactic| first
  | with_reducible refine wpAny_execs_cons ?_
  | with_reducible refine wpAny_execs_nil ?_
  | with_reducible refine wpAny_Return_some ?_
  | with_reducible refine wpAny_If ?_
  | with_reducible refine wpAny_BinOp ?_
  | (with_reducible refine Constant_str ?_; try dsimp only)
  | (with_reducible refine wpAny_Constant_int ?_; try dsimp only)
  | with_reducible refine Subscript_ ?_
  | with_reducible refine isTrue_not ?_
  | with_reducible refine isTrue_and ?_
  | with_reducible refine isTrue_and_nil ?_
  | ((with_reducible refine wpAny_isTrue_Compare1 ?_ ?mh); (case mh => exact rfl))
  | ((with_reducible refine wpAny_Compare1 ?_ ?mh); (case mh => exact rfl))
  | ((with_reducible refine wpAny_Assign_Name ?_ ?mh); (case mh => exact rfl))
  | ((with_reducible refine wpAny_Assign_Subscript ?_ ?mh); (case mh => exact rfl))
  | walk_at "ld"
  | ((with_reducible refine isTrue_plain ?_ ?mh); (case mh => exact rfl))
  | ((with_reducible refine mcallN ?_ ?mh ?mi); (case mh => exact rfl); (case mi => exact rfl))
  | ((with_reducible refine mcallC ?_ ?mh ?mi); (case mh => exact rfl); (case mi => exact rfl))
  | ((with_reducible refine mcallF ?_ ?mh ?mi); (case mh => exact rfl); (case mi => exact rfl))
  | with_reducible refine wpAny_truthy_bool ?_
  | (with_reducible refine PyProof.Rows.add_int ?_; try dsimp only)
  | (with_reducible refine PyProof.Rows.sub_int ?_; try dsimp only)
  | with_reducible refine PyProof.Rows.gt_int ?_
  | with_reducible refine PyProof.Rows.lt_int ?_
  | with_reducible refine PyProof.Rows.eq_int ?_
  | with_reducible refine PyProof.Rows.ne_int ?_
  | with_reducible refine isTrue_and ?_
  | with_reducible refine isTrue_and_nil ?_
  | ((with_reducible refine wpAny_Expr_any ?_ ?mh ?mi); (case mh => exact rfl); (case mi => exact rfl))
  | (with_reducible refine PyProof.Rows.mul_int ?_ (IntMulOk.of_left (by decide)); try dsimp only)
  | with_reducible refine wpAny_Break ?_
  | with_reducible refine wpAny_Continue ?_)
local macro_rules | `(tactic| walk_at "go") => `(tactic| repeat walk_at "1")

section
variable {prog : Program} {w : World} {A : Around} {E : Value → Shared → Prop} {s : Shared} {mg mb : Str → Option Value} {g : Heap}

def e0 (ws : Array Value) (j : Nat) : Ent := ⟨marks (strOf (ws.getD j .none)), (j : Int), strOf (ws.getD j .none)⟩
open LCg in
/-- the entries made so far -/
def Inv0 (ws : Array Value) (bs : List (Addr × Obj)) (i : Nat) (ys : List Value) (news : List (Addr × Obj)) : Prop :=
  (∀ p ∈ bs, p ∈ news) ∧ ys.length = i ∧ ∀ j, j < i → ∃ a t1 t2 t3, ys[j]? = some (.ref a) ∧ (a, entObj (e0 ws j) t1 t2 t3) ∈ news

theorem ents_of {h : Heap} {ws : Array Value} {ys : List Value} (hlen : ys.length = ws.size) (hent : ∀ j, j < ws.size → ∃ a, ys[j]? = some (.ref a) ∧ IsEnt h a (e0 ws j)) : Ents h (entOf h) ys ∧ ys.map (entOf h) = ent0 ws.toList := by
  constructor
  · intro v hv
    obtain ⟨j, hj, rfl⟩ := List.mem_iff_getElem.mp hv
    obtain ⟨a, e1, i⟩ := hent j (by omega)
    rw [List.getElem?_eq_getElem hj] at e1
    have e2 := Option.some.inj e1
    rw [e2]
    exact ⟨a, rfl, by rw [entOf_eq i]; exact i⟩
  · refine List.ext_getElem (by simp [ent0, hlen]) fun j hj hj' => ?_
    have hjw : j < ws.size := by simpa [hlen] using hj
    obtain ⟨a, e1, i⟩ := hent j hjw
    rw [List.getElem?_eq_getElem (by omega)] at e1
    have e2 := Option.some.inj e1
    rw [List.getElem_map, e2, entOf_eq i]
    simp [ent0, e0, Array.getD, hjw]

open LCg in
theorem turn_end {b : Heap} {L I C D : Addr} {m : Str → Option Value} {ws : Array Value} {bs : List (Addr × Obj)} {oI oC : Obj} {i : Nat} {ys : List Value} {news : List (Addr × Obj)} {h h₂ : Heap} {mk ik : Int} {x : Str} {t1 t2 t3 : Tok} {tk tk' : Nat}
    (F₂ : Fr b L h₂ m) (N₂ : News b L h₂ ((I, oI) :: (C, oC) :: (D, lst ys) :: news)) (o1 : Off3 I C D news) (inv : Inv0 ws bs i ys news) (he : e0 ws i = ⟨mk, ik, x⟩) :
    CompEnd b L m { s with heap := h, toks := tk } I oI C oC D (lst ys) (fun _ => True) (fun y news' => Inv0 ws bs (i + 1) (ys ++ [y]) news') (.ref h₂.objs.size)
      { s with heap := h₂.push { cls := .type "tuple", data := .seq [.int mk t1, .int ik t2, .str x t3].toArray }, toks := tk' } := by
  obtain ⟨hc, hlen, hall⟩ := inv
  have hT : ∀ p ∈ ((I, oI) :: (C, oC) :: (D, lst ys) :: news), p.1 < h₂.objs.size := fun p hp => Heap.lt_size (N₂ p hp).1
  refine CompEnd.intro (s₁ := { s with heap := h, toks := tk }) (all := (h₂.objs.size, entObj ⟨mk, ik, x⟩ t1 t2 t3) :: ((I, oI) :: (C, oC) :: (D, lst ys) :: news)) (F₂.keeps fun _ _ e => Heap.get?_push_of_some _ e) ?g1 ((h₂.objs.size, entObj ⟨mk, ik, x⟩ t1 t2 t3) :: news) ?g2 ⟨⟨?g3, ?g4, ?g5⟩, o1⟩ trivial ⟨fun p hp => List.mem_cons_of_mem _ (hc p hp), ?g6, ?g7⟩
  case g1 =>
    intro p hp
    rcases List.mem_cons.mp hp with rfl | hp
    · exact ⟨Heap.get?_push_size _ rfl, Nat.ne_of_gt F₂.ns.lt, fresh_none (Nat.le_of_lt (Nat.lt_of_le_of_lt F₂.above F₂.ns.lt))⟩
    · exact ⟨Heap.get?_push_of_some _ (N₂ p hp).1, (N₂ p hp).2⟩
  case g2 =>
    intro p hp
    rcases List.mem_cons.mp hp with rfl | hp
    · exact List.mem_cons_of_mem _ List.mem_cons_self
    · rcases List.mem_cons.mp hp with rfl | hp
      · exact List.mem_cons_of_mem _ (List.mem_cons_of_mem _ List.mem_cons_self)
      · rcases List.mem_cons.mp hp with rfl | hp
        · exact List.mem_cons_of_mem _ (List.mem_cons_of_mem _ (List.mem_cons_of_mem _ List.mem_cons_self))
        · rcases List.mem_cons.mp hp with rfl | hp
          · exact List.mem_cons_self
          · exact List.mem_cons_of_mem _ (List.mem_cons_of_mem _ (List.mem_cons_of_mem _ (List.mem_cons_of_mem _ hp)))
  case g3 => exact Nat.ne_of_gt (hT (I, oI) List.mem_cons_self)
  case g4 => exact Nat.ne_of_gt (hT (C, oC) (List.mem_cons_of_mem _ List.mem_cons_self))
  case g5 => exact Nat.ne_of_gt (hT (D, lst ys) (List.mem_cons_of_mem _ (List.mem_cons_of_mem _ List.mem_cons_self)))
  case g6 => rw [List.length_append, hlen]; rfl
  case g7 =>
    intro j hj
    by_cases q : j < i
    · obtain ⟨a, t1, t2, t3, e1, e2⟩ := hall j q
      exact ⟨a, t1, t2, t3, by rw [List.getElem?_append_left (by omega)]; exact e1, List.mem_cons_of_mem _ e2⟩
    · have : j = i := by omega
      subst this
      refine ⟨h₂.objs.size, t1, t2, t3, ?_, ?_⟩
      · rw [List.getElem?_append_right (by omega), hlen, Nat.sub_self]; rfl
      · rw [he]; exact List.mem_cons_self

theorem ent_text {value slice : Expr} {a : Addr} {e : Ent} {u : Tok} {Q : Value → Shared → Prop} (i : IsEnt s.heap a e) (h : ∀ t, Q (.str e.x t) s)
    (hs : subscripted slice false (.ref a) (.int 2 u) = operate [.ref a, .int 2 u] (getItem (.ref a) (.int 2 u))) : wpAny (model prog w) A (subscriptTail value slice (.ref a) (.int 2 u)) Q E s := by
  obtain ⟨t1, t2, t3, g⟩ := id i
  exact tail_any i.typeIs slot_tuple_getitem.lookup (getItem_tuple (items := #[.int e.m t1, .int e.p t2, .str e.x t3]) (j := 2) ⟨_, g, rfl, _, rfl⟩ (by decide) (by decide) rfl rfl (h t3)) hs
theorem ent_num {value slice : Expr} {a : Addr} {e : Ent} {u : Tok} {Q : Value → Shared → Prop} (i : IsEnt s.heap a e) (h : ∀ t, Q (.int e.m t) s)
    (hs : subscripted slice false (.ref a) (.int 0 u) = operate [.ref a, .int 0 u] (getItem (.ref a) (.int 0 u))) : wpAny (model prog w) A (subscriptTail value slice (.ref a) (.int 0 u)) Q E s := by
  obtain ⟨t1, t2, t3, g⟩ := id i
  exact tail_any i.typeIs slot_tuple_getitem.lookup (getItem_tuple (items := #[.int e.m t1, .int e.p t2, .str e.x t3]) (j := 0) ⟨_, g, rfl, _, rfl⟩ (by decide) (by decide) rfl rfl (h t1)) hs
theorem popA_size {lt : Value → Value → Bool} {xs : Array Value} : (popA lt xs).size = xs.size - 1 := by
  unfold popA; rw [siftupA_size]; simp
theorem popA_mem {lt : Value → Value → Bool} {xs : Array Value} (h : 2 ≤ xs.size) : ∀ v ∈ (popA lt xs).toList, v ∈ xs.toList := by
  intro v hv
  have := siftupA_mem (lt := lt) (xs := xs.pop.setIfInBounds 0 (xs.getD (xs.size - 1) .none)) (ps := 0) (by simp; omega) v hv
  rcases mem_set this with rfl | q
  · exact getD_mem (by omega)
  · rw [Array.toList_pop] at q; exact List.dropLast_subset _ q
theorem Tb.turn {h h' : Heap} {z : Addr} (T : Tb h) (h1 : z ≠ 38) (h2 : z ≠ 42) (hk : ∀ a o, a ≠ z → h.get? a = some o → h'.get? a = some o) : Tb h' :=
  T.at (fun o e => hk _ o (Ne.symm h2) e) (fun o e => hk _ o (Ne.symm h1) e)
theorem NS.apart {b : Heap} {L c D P : Addr} {cv : Value} {h : Heap} {m : Str → Option Value} {xs ps : Array Value} {o42 : Obj} (X : NS b L c D P cv h m xs ps) (T : Tb h) (hb : b.get? 42 = some o42) :
    (L ≠ 38 ∧ c ≠ 38 ∧ D ≠ 38 ∧ P ≠ 38) ∧ (L ≠ 42 ∧ D ≠ 42 ∧ P ≠ 42) := by
  obtain ⟨ps', _, ⟨_, hT⟩, _⟩ := T
  refine ⟨⟨?_, ?_, ?_, ?_⟩, ?_, ?_, ?_⟩
  · rintro rfl
    obtain ⟨o', _, _, e', d', _⟩ := X.F.ns
    rw [hT] at e'; cases e'; cases d'
  · rintro rfl
    obtain ⟨o', e', d'⟩ := X.cell
    rw [hT] at e'; cases e'; cases d'
  · rintro rfl
    obtain ⟨n, e'⟩ := X.hD
    rw [hT] at e'; cases e'
  · rintro rfl
    obtain ⟨n, e'⟩ := X.hP
    rw [hT] at e'; cases e'
  · rintro rfl
    exact Nat.lt_irrefl _ (Nat.lt_of_lt_of_le (Heap.lt_size hb) X.F.above)
  · rintro rfl
    rw [X.Db] at hb; cases hb
  · rintro rfl
    rw [X.Pb] at hb; cases hb
/-- what stands at the head of the loop -/
structure NI (b : Heap) (L c D P W : Addr) (ws : Array Value) (h : Heap) (m : Str → Option Value) (xs ps : Array Value) (prs : List (Ent × Ent)) : Prop where
  X : NS b L c D P (.ref W) h m xs ps
  T : Tb h
  he : Ents h (entOf h) xs.toList
  hp : HP (fun v => key (entOf h v)) xs.toList
  hd : PD ((ws.size : Int) + (prs.length : Int)) (xs.toList.map (entOf h))
  hn : xs.size + prs.length = ws.size
  h1 : 1 ≤ xs.size
  htx : ∀ v ∈ xs.toList, Ok (entOf h v).x ∧ (entOf h v).x.length ≤ Bnd prs.length
  hpr : ArePairs h ps.toList prs
  hgr : ∀ ps' last', Gr ((ws.size : Int) + (prs.length : Int)) (xs.toList.map (entOf h)) ps' last' → Gr ws.size (ent0 ws.toList) (prs ++ ps') last'
  m1 : m (Str.ofString "heap") = some (.ref D)
  m2 : m (Str.ofString "pairs") = some (.ref P)
theorem ent0_text {ws : Array Value} (hws : WL ws 24) : ∀ e ∈ ent0 ws.toList, Ok e.x ∧ e.x.length ≤ 24 := by
  intro e he
  obtain ⟨i, hi, rfl⟩ := List.mem_mapIdx.mp he
  obtain ⟨x, t, ex, ox, lx⟩ := hws _ (List.getElem_mem hi)
  simp only
  rw [ex]
  exact ⟨ox, lx⟩

theorem nested_spec {W : Addr} {ws : Array Value} {Q : Value → Shared → Prop} (G : Gd w mg mb g) (St : ∀ b o, g.get? b = some o → s.heap.get? b = some o) (hg38 : g.get? 38 = none) (T : Tb s.heap) (hB : AllBare s.gens) (hh : A.handled = none)
    (hroom : A.depth + 10 < recursionLimit) (hu : A.units + 30 < cLine) (hW : s.heap.IsList W ws) (h3 : 3 ≤ ws.size) (h5 : ws.size ≤ 5) (hws : WL ws 24)
    (h : ∀ s' a prs last, Tb s'.heap → (∀ b o, b ≠ 38 → s.heap.get? b = some o → s'.heap.get? b = some o) → AllBare s'.gens → s'.os = s.os → IsTold s'.heap a prs last → Gr ws.size (ent0 ws.toList) prs last → Q (.ref a) s') :
    wpAny (model prog w) A (call (.ref 117) [.ref W]) Q E s := by
  refine' callC (a := 117) (binds := [(Str.ofString "words", .ref W)]) (G.keeps St) ?ho ?hcd (by omega) ?hb ?hk ?c1 ?c2 ?c3 ?_
  case ho => exact rfl
  case hcd => kernel_rfl
  case hb => exact rfl
  case hk => intro x hx; rcases List.mem_cons.mp hx with rfl | hx; exact .inr ⟨rfl, rfl⟩; cases hx
  case c1 => exact rfl
  case c2 => exact rfl
  case c3 => exact rfl
  intro h₁ L tk hL F₀ X₀
  obtain ⟨oc, hoc, hocd⟩ : h₁.IsCell (L + 1) (some (.ref W)) := X₀.cell (Str.ofString "words") (L + 1) rfl
  have hG : ∀ b o, g.get? b = some o → (s.heap.hide 38).get? b = some o := fun b o e => by
    rw [Heap.hide_ne _ (fun q : b = 38 => by rw [q, hg38] at e; cases e)]; exact St b o e
  have G₁ : Gd w mg mb (s.heap.hide 38) := G.keeps hG
  have F : Fr (s.heap.hide 38) L h₁ _ := ⟨F₀.ns, fun b o e => F₀.keep b o (Heap.of_hide e), by rw [Heap.hide_size]; exact F₀.above⟩
  have T₁ : Tb h₁ := T.keeps F₀.keep
  have hW38 : W ≠ 38 := fun e => by
    obtain ⟨_, _, hT, _⟩ := T
    obtain ⟨o, ho, hc, _⟩ := hW
    rw [e, hT.2] at ho; cases ho; cases hc
  have hWb : (s.heap.hide 38).IsList W ws := hW.at fun o e => (Heap.hide_ne _ hW38).trans e
  have hcb : (s.heap.hide 38).get? (L + 1) = none := fresh_none (by rw [Heap.hide_size, hL]; exact Nat.le_succ _)
  obtain ⟨o38, ho38⟩ : ∃ o, h₁.get? 38 = some o := by obtain ⟨_, _, hT, _⟩ := T₁; exact ⟨_, hT.2⟩
  have h38L : (38 : Addr) < s.heap.objs.size := by obtain ⟨_, _, hT, _⟩ := T; exact Heap.lt_size hT.2
  have N : News (s.heap.hide 38) L h₁ [(L + 1, oc), (38, o38)] := fun p hp => by
    rcases List.mem_cons.mp hp with rfl | hp
    · exact ⟨hoc, Nat.ne_of_gt (Nat.lt_succ_self _), hcb⟩
    · rcases List.mem_cons.mp hp with rfl | hp
      · exact ⟨ho38, Nat.ne_of_lt (hL ▸ h38L), Heap.hide_self _ _⟩
      · cases hp
  walk_at "1"
  refine LCg.Assign_ListComp_U (cl := [(Str.ofString "words", L + 1)]) F rfl rfl (by rfl) (by decide) rfl (by decide) rfl rfl rfl ?_
  refine ctyp (mb := mb) (G₁.g.keeps F.keep) (G₁.b.keeps F.keep) G₁.range (arg1 ?_)
  refine cblt (mb := mb) (G₁.g.keeps F.keep) (G₁.b.keeps F.keep) G₁.len (arg1 ?_)
  refine ldCell (c := L + 1) ⟨oc, hoc, hocd⟩ ?_ rfl rfl rfl (by decide)
  refine call_len_list (hWb.at fun o e => F.keep _ o e) (by omega) ?_
  refine call_range_1 ?_
  have up : ∀ (oo : Obj) (b : Addr) (o : Obj), h₁.get? b = some o → (h₁.push oo).get? b = some o := fun _ _ _ e => Heap.get?_push_of_some _ e
  refine LCg.CompSrc.range (n := ws.size) hh (F.keeps (up _)) (N.grown (up _)) (IsRange.new _ _ _ _ _ _ _) (small_range (by omega)) (by rw [rangeSize_one]; split <;> omega) (by unfold sizeLine; omega) ?_
  intro gg
  refine rest_of (Inv0 ws [(L + 1, oc), (38, o38)]) ws.size ?step ?fin ws.size 0 [] _ (by omega) ⟨fun _ hp => hp, rfl, fun j hj => absurd hj (Nat.not_lt_zero j)⟩
  case step =>
    rintro i ys news hi ⟨hc, hlen, hall⟩ v I oI C oC D m₂ h' tk' E' ⟨t, rfl⟩ hn hm F' N' o1 o2
    have hC := (hn.ns (N' (C, oC) (List.mem_cons_of_mem _ List.mem_cons_self)).1)
    have hcell' : ∀ {h'' : Heap}, (∀ b o, h'.get? b = some o → h''.get? b = some o) → h''.IsCell (L + 1) (some (.ref W)) := fun hk => ⟨oc, hk _ _ (N' (L + 1, oc) (List.mem_cons_of_mem _ (List.mem_cons_of_mem _ (List.mem_cons_of_mem _ (hc _ List.mem_cons_self))))).1, hocd⟩
    obtain ⟨x, tx, hx, hxo, hxl⟩ := hws _ (getD_mem hi)
    have hwi : ws[((0 : Int) + (i : Int)).toNat]? = some (.str x tx) := by
      rw [show ((0 : Int) + (i : Int)).toNat = i by omega, getD_some hi, hx]
    refine wpAny_Tuple_spliced (arg3 ?_)
    refine mcallF ?_
    refine cdef (w := w) (G₁.g.keeps F'.keep) G₁.quote (by kernel_rfl) (arg1 ?_)
    refine Subscript_ ?_
    refine ldCell (c := L + 1) (hcell' fun _ _ e => e) ?_ rfl rfl rfl (by decide)
    refine wpAny_Name (wpAny_loadName_local rfl rfl hC hm ?_) (by decide)
    refine item_I (hWb.at fun o e => F'.keep _ o e) (by omega) (by omega) hwi ?_ rfl
    refine ⟨G₁.K.keeps F'.keep, ?_⟩
    refine quote_spec (G₁.keeps F'.keep) (by show A.depth + 1 < _; omega) hxo (by omega) ?_
    intro h₂ tk₂ t₂ hk₂
    have F₂ := F'.keeps hk₂
    have N₂ := N'.grown hk₂
    with_reducible refine GM.count ?_
    refine callWith_method1 (arg1 (Constant_str ?_))
    rw [lit_q]
    refine SC.count ?_
    rw [spell_count]
    dsimp only
    refine wpAny_Name (wpAny_loadName_local rfl rfl (hC.keeps hk₂) hm ?_) (by decide)
    refine Subscript_ ?_
    refine ldCell (c := L + 1) (hcell' hk₂) ?_ rfl rfl rfl (by decide)
    refine wpAny_Name (wpAny_loadName_local rfl rfl (hC.keeps hk₂) hm ?_) (by decide)
    refine item_I (hWb.at fun o e => F₂.keep _ o e) (by omega) (by omega) hwi ?_ rfl
    refine ⟨by unfold sizeLine; simp, ?_⟩
    have he : e0 ws i = ⟨marks x, (0 : Int) + (i : Int), x⟩ := by
      unfold e0; rw [hx, Int.zero_add]; rfl
    exact turn_end F₂ N₂ o1 ⟨hc, hlen, hall⟩ he
  case fin =>
    rintro ys news ⟨hc, hlen, hall⟩ D h₂ tk₂ F₂ N₂ off
    have hD₂ : h₂.PlainList D ys.toArray := ⟨_, (N₂ _ List.mem_cons_self).1⟩
    have hDb : (s.heap.hide 38).get? D = none := (N₂ _ List.mem_cons_self).2.2
    have hcell₂ : h₂.IsCell (L + 1) (some (.ref W)) := ⟨oc, (N₂ _ (List.mem_cons_of_mem _ (hc _ List.mem_cons_self))).1, hocd⟩
    have T₂ : Tb h₂ := T₁.at (fun o e => by
        have k := G₁.K 42 _ rfl
        have k1 := F.keep _ _ k
        rw [e] at k1; cases k1
        exact F₂.keep _ _ k) (fun o e => by
        rw [ho38] at e; cases e
        exact (N₂ _ (List.mem_cons_of_mem _ (hc _ (List.mem_cons_of_mem _ List.mem_cons_self)))).1)
    have hent : ∀ j, j < ws.size → ∃ a, ys[j]? = some (.ref a) ∧ IsEnt h₂ a (e0 ws j) := fun j hj => by
      obtain ⟨a, t1, t2, t3, e1, e2⟩ := hall j hj
      exact ⟨a, e1, t1, t2, t3, (N₂ _ (List.mem_cons_of_mem _ e2)).1⟩
    obtain ⟨he₂, hm₂⟩ := ents_of hlen hent
    clear hall hent N₂ off
    dsimp only
    walk_at "go"
    refine cdef (w := w) (G₁.g.keeps F₂.keep) G₁.heapify (by kernel_rfl) (arg1 ?_)
    refine ldLoc F₂ rfl ?_ rfl rfl (by decide)
    refine ⟨G₁.K.keeps F₂.keep, ?_⟩
    refine heapify_spec (ent := entOf h₂) G₁ F₂.keep hDb hh (by show A.depth + 1 + 2 < _; omega) (by show A.units + 3 + 9 < _; omega) hD₂ he₂ (by simp; omega) ?_
    intro h₃ tk₃ hD₃ hk₃
    have hDL := list_ns hD₂ F₂.ns
    have F₃ := Fr.but F₂ hDb (Ne.symm hDL) hk₃
    have hcell₃ := cell_but hcell₂ (Ne.symm (list_cell hD₂ hcell₂)) hk₃
    dsimp only
    walk_at "go"
    refine wpAny_List_spliced ?_
    refine args_nil ?_
    refine ⟨Nat.zero_le _, ?_⟩
    have hPfree : (s.heap.hide 38).get? h₃.objs.size = none := fresh_none (Nat.le_of_lt (Nat.lt_of_le_of_lt F₃.above F₃.ns.lt))
    have hDlt : D < h₃.objs.size := by obtain ⟨_, e⟩ := hD₃; exact Heap.lt_size e
    have up₃ : ∀ (oo : Obj) (b : Addr) (o : Obj), h₃.get? b = some o → (h₃.push oo).get? b = some o := fun _ _ _ e => Heap.get?_push_of_some _ e
    have X₄ : NS (s.heap.hide 38) L (L + 1) D h₃.objs.size (.ref W) (h₃.push { cls := .type "list", data := .seq ([] : List Value).toArray }) _ _ #[] :=
      ⟨F₃.keeps (up₃ _), hcell₃.keeps (up₃ _), hD₃.at fun o e => up₃ _ _ o e, ⟨_, Heap.get?_push_size _ rfl⟩, Nat.ne_of_lt hDlt, hcb, hDb, hPfree⟩
    generalize hP : h₃.objs.size = P at X₄ hPfree ⊢
    walk_at "st"
    intro h₅ X₅ k₅
    have TK₅ : TK h₂ h₅ := ((TK.list hD₂ hk₃).trans (TK.all (up₃ _))).trans (TK.ns X₄.F.ns k₅)
    obtain ⟨he₅, hem₅⟩ := ents_move he₂ TK₅
    have hsz₂ : ys.length = ws.size := hlen
    obtain ⟨hp1, hp2⟩ := heapifyP (lt := ltV (entOf h₂)) (K := fun v => key (entOf h₂ v)) (l := ys) (by omega) (by omega) (ltV_key (p := ws.size) (by rw [hm₂]; have := ent0_pd ws.toList; simpa using this) (by omega))
    rw [show ys.toArray.size / 2 = ys.length / 2 by simp] at X₅ hD₃
    generalize hxs : heapifyA (ltV (entOf h₂)) (ys.length / 2) ys.toArray = xs at X₅ hp1 hp2 hD₃
    have hmem : ∀ v ∈ xs.toList, v ∈ ys := fun v hv => hp2.mem_iff.mp hv
    have hmap : (xs.toList.map (entOf h₅)).Perm (ent0 ws.toList) := by
      rw [List.map_congr_left fun v hv => hem₅ v (hmem v hv), ← hm₂]
      exact hp2.map _
    obtain ⟨m₅, X₆, e61, e62⟩ : ∃ m₅, NS (s.heap.hide 38) L (L + 1) D P (.ref W) h₅ m₅ xs #[] ∧ m₅ (Str.ofString "heap") = some (.ref D) ∧ m₅ (Str.ofString "pairs") = some (.ref P) := ⟨_, X₅, rfl, rfl⟩
    have I₀ : NI (s.heap.hide 38) L (L + 1) D P W ws h₅ m₅ xs #[] [] := by
      refine ⟨X₆, ?_, he₅.sub hmem, ?_, ?_, ?_, ?_, ?_, .nil, ?_, e61, e62⟩
      · have hDl : D ≠ 38 := fun e => by
          obtain ⟨_, _, hT, _⟩ := T₂
          obtain ⟨n, ho⟩ := hD₂
          rw [e, hT.2] at ho; cases ho
        have hLl : L ≠ 38 := Nat.ne_of_gt (hL ▸ h38L)
        have hD42 : D ≠ 42 := fun e => by have := G₁.K 42 _ rfl; rw [← e, hDb] at this; cases this
        have hL42 : L ≠ 42 := fun e => by have := Heap.lt_size (G₁.K 42 _ rfl); rw [Heap.hide_size, ← hL, e] at this; exact Nat.lt_irrefl _ this
        exact T₂.at (fun o e => k₅ _ o (Ne.symm hL42) (up₃ _ _ o (hk₃ _ o (Ne.symm hD42) e))) (fun o e => k₅ _ o (Ne.symm hLl) (up₃ _ _ o (hk₃ _ o (Ne.symm hDl) e)))
      · exact HP.congr (fun u hu => by rw [hem₅ u (hmem u hu)]) hp1
      · have := (ent0_pd ws.toList).perm hmap.symm
        simpa using this
      · have := hp2.length_eq; simp only [Array.length_toList] at this; simp; omega
      · have := hp2.length_eq; simp only [Array.length_toList] at this; omega
      · intro v hv
        have := ent0_text hws (entOf h₅ v) (hmap.mem_iff.mp (List.mem_map_of_mem hv))
        exact this
      · intro ps' last' hg
        have := hg.perm hmap
        simpa using this
    clear hp1 hp2 hxs hmem hmap he₅ hem₅ TK₅ X₆ X₅ X₄ hD₃ F₃ hcell₃ he₂ hm₂ hcell₂ F₂ T₂ hD₂
    walk_at "1"
    refine wpAny_While (codeAny_whileLoop (fun n s' => ∃ (m : Str → Option Value) (xs ps : Array Value) (prs : List (Ent × Ent)), AllBare s'.gens ∧ s'.os = s.os ∧ NI (s.heap.hide 38) L (L + 1) D P W ws s'.heap m xs ps prs ∧ xs.size ≤ n) ?turn ws.size ?start)
    case start => exact ⟨_, xs, #[], [], hB, rfl, I₀, by have := I₀.hn; simp at this; omega⟩
    rintro n s' ⟨m, xs, ps, prs, hBg, hos, I, hn⟩
    have X := I.X
    have m1 := I.m1
    have m2 := I.m2
    walk_at "go"
    refine cblt (mb := mb) (G₁.g.keeps X.F.keep) (G₁.b.keeps X.F.keep) G₁.len (arg1 ?_)
    walk_at "go"
    refine call_len_list X.hD.isList (by have := I.hn; omega) ?_
    walk_at "go"
    by_cases h2 : 2 ≤ xs.size
    · rw [if_pos (by simp; omega)]
      walk_at "go"
      refine cdef (w := w) (G₁.g.keeps X.F.keep) G₁.heappop (by kernel_rfl) (arg1 ?_)
      walk_at "go"
      refine ⟨G₁.K.keeps X.F.keep, ?_⟩
      have hnn := I.hn
      refine heappop_spec (ent := entOf s'.heap) G₁ X.F.keep X.Db (by show A.depth + 1 + 2 < _; omega) (by show A.units + 3 + 9 < _; omega) X.hD I.he h2 (by omega) ?_
      intro h₁' tk₁ hD₁ hk₁
      have X₁ := X.turnD hD₁ hk₁
      dsimp only
      have hps := popA_size (lt := ltV (entOf s'.heap)) (xs := xs)
      have hpm := popA_mem (lt := ltV (entOf s'.heap)) h2
      generalize hys : popA (ltV (entOf s'.heap)) xs = ys at hD₁ X₁ hps hpm
      obtain ⟨a0, ea0, i0⟩ := I.he _ (getD_mem (i := 0) (by omega))
      obtain ⟨a1, ea1, i1⟩ := I.he _ (hpm _ (getD_mem (i := 0) (by omega)))
      obtain ⟨o0, l0⟩ := I.htx _ (getD_mem (i := 0) (by omega))
      obtain ⟨o1, l1⟩ := I.htx _ (hpm _ (getD_mem (i := 0) (by omega)))
      rw [ea0]
      walk_at "st"
      intro h₂ X₂ k₂
      have TK₂ : TK s'.heap h₂ := (TK.list X.hD hk₁).trans (TK.ns X₁.F.ns k₂)
      dsimp only
      walk_at "go"
      refine cdef (w := w) (G₁.g.keeps X₂.F.keep) G₁.join (by kernel_rfl) (arg1 ?_)
      refine wpAny_List_spliced (arg2 ?_)
      walk_at "go"
      refine ent_text (i0.tk TK₂) (fun t0 => ?_) rfl
      walk_at "go"
      refine item_c X₂.hD (by decide) (by decide) (getD_some (i := 0) (by omega)) ?_
      rw [ea1]
      walk_at "go"
      refine ent_text (i1.tk TK₂) (fun t1 => ?_) rfl
      refine ⟨by unfold sizeLine; simp, ?_⟩
      dsimp only
      have up₂ : ∀ (oo : Obj) (b : Addr) (o : Obj), h₂.get? b = some o → (h₂.push oo).get? b = some o := fun _ _ _ e => Heap.get?_push_of_some _ e
      refine ⟨G₁.K.keeps fun b o e => up₂ _ b o (X₂.F.keep b o e), ?_⟩
      have h42 := G₁.K 42 _ rfl
      have T₁' : Tb h₁' := I.T.turn (X.apart I.T h42).1.2.2.1 (X.apart I.T h42).2.2.1 hk₁
      have T₂ : Tb h₂ := T₁'.turn (X₁.apart T₁' h42).1.1 (X₁.apart T₁' h42).2.1 k₂
      have hB3 : Bnd prs.length ≤ 24555 := by
        have : prs.length = 0 ∨ prs.length = 1 ∨ prs.length = 2 ∨ prs.length = 3 := by omega
        rcases this with q | q | q | q <;> rw [q] <;> decide
      refine join_spec (x := (entOf s'.heap (xs.getD 0 .none)).x) (y := (entOf s'.heap (ys.getD 0 .none)).x) G₁ (fun b o e => up₂ _ b o (X₂.F.keep b o e)) (Heap.hide_self _ _) (T₂.keeps (up₂ _)) hBg hh (by show A.depth + 1 + 3 < _; omega) ⟨_, Heap.get?_push_size _ rfl, rfl, _, rfl⟩ o0 o1 (by omega) (by omega) ?_
      intro s₃ t₃ T₃ k₃ B₃ os₃
      have X₂' := X₂.kept (up₂ { cls := .type "list", data := .seq [Value.str (entOf s'.heap (xs.getD 0 .none)).x t0, Value.str (entOf s'.heap (ys.getD 0 .none)).x t1].toArray })
      have T₂' := T₂.keeps (up₂ { cls := .type "list", data := .seq [Value.str (entOf s'.heap (xs.getD 0 .none)).x t0, Value.str (entOf s'.heap (ys.getD 0 .none)).x t1].toArray })
      have ap := (X₂'.apart T₂' h42).1
      have X₃ := X₂'.but (Heap.hide_self _ _) ap.1 ap.2.1 ap.2.2.1 ap.2.2.2 k₃
      have TK₃ : TK s'.heap s₃.heap := TK₂.trans ((TK.all (up₂ _)).trans (TK.tb T₂' k₃))
      clear X₂' T₂' ap
      generalize hline : lineOf (entOf s'.heap (xs.getD 0 .none)).x (entOf s'.heap (ys.getD 0 .none)).x = line at *
      have hlok : Ok line := hline ▸ line_ok o0 o1
      have hlle : line.length ≤ Bnd (prs.length + 1) := hline ▸ line_len l0 l1
      have hB4 : Bnd (prs.length + 1) ≤ 245555 := by show 10 * Bnd prs.length + 5 ≤ _; omega
      walk_at "st"
      intro h₄ X₄ k₄
      have T₄ : Tb h₄ := T₃.turn (X₃.apart T₃ h42).1.1 (X₃.apart T₃ h42).2.1 k₄
      have TK₄ : TK s'.heap h₄ := TK₃.trans (TK.ns X₃.F.ns k₄)
      try dsimp only
      walk_at "go"
      refine cdef (w := w) (G₁.g.keeps X₄.F.keep) G₁.heapreplace (by kernel_rfl) (arg2 ?_)
      walk_at "go"
      refine wpAny_Tuple_spliced (arg3 ?_)
      walk_at "1"
      refine cdef (w := w) (G₁.g.keeps X₄.F.keep) G₁.quote (by kernel_rfl) (arg1 ?_)
      walk_at "go"
      refine ⟨G₁.K.keeps X₄.F.keep, ?_⟩
      refine quote_spec (G₁.keeps X₄.F.keep) (by show A.depth + 1 < _; omega) hlok (by omega) ?_
      intro h₅ tk₅ t₅ k₅
      have X₅ := X₄.kept k₅
      have T₅ := T₄.keeps k₅
      have TK₅ := TK₄.trans (TK.all k₅)
      with_reducible refine GM.count ?_
      refine callWith_method1 (arg1 (Constant_str ?_))
      rw [lit_q]
      refine SC.count ?_
      rw [spell_count]
      dsimp only
      walk_at "go"
      refine cblt (mb := mb) (G₁.g.keeps X₅.F.keep) (G₁.b.keeps X₅.F.keep) G₁.len (arg1 ?_)
      refine ldCell (c := L + 1) X₅.cell ?_ rfl rfl rfl (by decide)
      refine call_len_list (hWb.at fun o e => X₅.F.keep _ o e) (by omega) ?_
      dsimp only
      refine cblt (mb := mb) (G₁.g.keeps X₅.F.keep) (G₁.b.keeps X₅.F.keep) G₁.len (arg1 ?_)
      walk_at "go"
      have hpsz : ps.size = prs.length := by have := I.hpr.length; simpa using this
      refine call_len_list X₅.hP.isList (by omega) ?_
      dsimp only
      walk_at "go"
      refine ⟨by unfold sizeLine; simp, ?_⟩
      dsimp only
      have up₅ : ∀ (oo : Obj) (b : Addr) (o : Obj), h₅.get? b = some o → (h₅.push oo).get? b = some o := fun _ _ _ e => Heap.get?_push_of_some _ e
      have iN : IsEnt (h₅.push { cls := .type "tuple", data := .seq #[Value.int (marks line) (tk₅ + 1), Value.int ((ws.size : Int) + (ps.size : Int)) (tk₅ + 1 + 1 + 1 + 1 + 1 + 1), Value.str line t₃] }) h₅.objs.size ⟨marks line, (ws.size : Int) + (ps.size : Int), line⟩ :=
        ⟨_, _, _, Heap.get?_push_size _ rfl⟩
      have k₆ := up₅ { cls := .type "tuple", data := .seq #[Value.int (marks line) (tk₅ + 1), Value.int ((ws.size : Int) + (ps.size : Int)) (tk₅ + 1 + 1 + 1 + 1 + 1 + 1), Value.str line t₃] }
      generalize hH₆ : h₅.push { cls := .type "tuple", data := .seq #[Value.int (marks line) (tk₅ + 1), Value.int ((ws.size : Int) + (ps.size : Int)) (tk₅ + 1 + 1 + 1 + 1 + 1 + 1), Value.str line t₃] } = h₆ at iN k₆ ⊢
      generalize hTn : h₅.objs.size = Tn at iN ⊢
      have X₆ := X₅.kept k₆
      have T₆ := T₅.keeps k₆
      have TK₆ := TK₅.trans (TK.all k₆)
      clear X₂ X₃ X₄ X₅ T₅ T₄ T₃ T₂ T₁' TK₃ TK₄ TK₅ TK₂
      refine ⟨G₁.K.keeps X₆.F.keep, ?_⟩
      obtain ⟨heM, hem⟩ := ents_move I.he TK₆
      have hvN : entOf h₆ (.ref Tn) = mkE (entOf s'.heap (xs.getD 0 .none)) (entOf s'.heap (ys.getD 0 .none)) ((ws.size : Int) + (prs.length : Int)) := by
        rw [entOf_eq iN, hpsz]; unfold mkE; rw [hline]
      refine heapreplace_spec (ent := entOf h₆) G₁ X₆.F.keep X₆.Db (by show A.depth + 1 + 2 < _; omega) (by show A.units + 3 + 9 < _; omega) X₆.hD (heM.sub hpm) ⟨Tn, rfl, by rw [entOf_eq iN]; exact iN⟩ (by omega) (by omega) ?_
      intro h₇ tk₇ hD₇ hk₇
      have X₇ := X₆.turnD hD₇ hk₇
      have T₇ : Tb h₇ := T₆.turn (X₆.apart T₆ h42).1.2.2.1 (X₆.apart T₆ h42).2.2.1 hk₇
      have TK₇ := TK.list X₆.hD hk₇
      rw [ea1]
      dsimp only
      walk_at "st"
      intro h₈ X₈ k₈
      have T₈ : Tb h₈ := T₇.turn (X₇.apart T₇ h42).1.1 (X₇.apart T₇ h42).2.1 k₈
      have TK₈ := TK₇.trans (TK.ns X₇.F.ns k₈)
      dsimp only
      walk_at "go"
      obtain ⟨np, hPo⟩ := X₈.hP
      refine getMethod_list_append hPo rfl rfl ?_
      refine callWith_method1 (arg1 ?_)
      refine wpAny_Tuple_spliced (arg2 ?_)
      walk_at "go"
      refine ⟨by unfold sizeLine; simp, ?_⟩
      dsimp only
      have k₉ : ∀ (b : Addr) (o : Obj), h₈.get? b = some o → (h₈.push { cls := .type "tuple", data := .seq [Value.ref a0, Value.ref a1].toArray }).get? b = some o := fun _ _ e => Heap.get?_push_of_some _ e
      have hPr : (h₈.push { cls := .type "tuple", data := .seq [Value.ref a0, Value.ref a1].toArray }).get? h₈.objs.size = some (pairObj (.ref a0) (.ref a1)) := Heap.get?_push_size _ rfl
      have X₉ := X₈.kept k₉
      have T₉ := T₈.keeps k₉
      refine wpAny_list_append_plain X₉.hP ?_ (by unfold sizeLine; omega)
      intro h₁₀ hP₁₀ s₁₀
      have k₁₀ : ∀ a o, a ≠ P → (h₈.push { cls := .type "tuple", data := .seq [Value.ref a0, Value.ref a1].toArray }).get? a = some o → h₁₀.get? a = some o := fun a o ha e => s₁₀.extBut a o ha e
      have X₁₀ := X₉.turnP hP₁₀ k₁₀
      have T₁₀ : Tb h₁₀ := T₉.turn (X₉.apart T₉ h42).1.2.2.2 (X₉.apart T₉ h42).2.2.2 k₁₀
      have TKp := TK.list X₉.hP k₁₀
      have TK₁₀ : TK h₆ h₁₀ := (TK₈.trans (TK.all k₉)).trans TKp
      have TKa : TK s'.heap h₁₀ := TK₆.trans TK₁₀
      obtain ⟨heM₂, hem₂⟩ := ents_move I.he TKa
      have hvN₂ : entOf h₁₀ (.ref Tn) = entOf h₆ (.ref Tn) := by rw [entOf_eq iN, entOf_eq (iN.tk TK₁₀)]
      subst hys
      obtain ⟨g1, g2, g3, g4, g5, g6, g7⟩ := greedy_step (ent := entOf s'.heap) (ent' := entOf h₆) (v := .ref Tn) (p := (ws.size : Int) + (prs.length : Int)) h2 (by omega) I.hp I.hd (by omega) (by omega) hem hvN
      walk_at "go"
      have hag : ∀ u ∈ (replA (ltV (entOf h₆)) (popA (ltV (entOf s'.heap)) xs) (.ref Tn)).toList, entOf h₁₀ u = entOf h₆ u := fun u hu => by
        rcases g6 u hu with rfl | q
        · exact hvN₂
        · rw [hem₂ u q, hem u q]
      have hcast : (ws.size : Int) + ((prs ++ [(entOf s'.heap (xs.getD 0 .none), entOf s'.heap ((popA (ltV (entOf s'.heap)) xs).getD 0 .none))]).length : Int) = (ws.size : Int) + (prs.length : Int) + 1 := by
        rw [List.length_append]; simp only [List.length_cons, List.length_nil]; omega
      refine ⟨xs.size - 1, by omega, _, _, _, prs ++ [(entOf s'.heap (xs.getD 0 .none), entOf s'.heap ((popA (ltV (entOf s'.heap)) xs).getD 0 .none))], B₃, os₃.trans hos, ⟨X₁₀, T₁₀, ?_, ?_, ?_, ?_, ?_, ?_, ?_, ?_, m1, m2⟩, ?_⟩
      · intro u hu
        rcases g6 u hu with rfl | q
        · exact ⟨Tn, rfl, by rw [entOf_eq (iN.tk TK₁₀)]; exact iN.tk TK₁₀⟩
        · exact heM₂ u q
      · exact HP.congr (fun u hu => by rw [hag u hu]) g1
      · rw [hcast, List.map_congr_left hag]; exact g2
      · rw [List.length_append]; simp only [List.length_cons, List.length_nil]; omega
      · omega
      · intro u hu
        rw [List.length_append]
        simp only [List.length_cons, List.length_nil]
        rcases g6 u hu with rfl | q
        · rw [entOf_eq (iN.tk TK₁₀)]; exact ⟨hlok, hlle⟩
        · rw [hem₂ u q]
          exact ⟨(I.htx u q).1, Nat.le_trans (I.htx u q).2 (Bnd_le _)⟩
      · rw [Array.toList_push]
        have hPlt : P < h₈.objs.size := Heap.lt_size hPo
        exact .snoc (I.hpr.at TKa) ⟨h₈.objs.size, a0, a1, rfl, k₁₀ _ _ (Nat.ne_of_gt hPlt) hPr, i0.tk TKa, i1.tk TKa⟩
      · intro ps' last' hg
        rw [hcast, List.map_congr_left hag] at hg
        have := I.hgr _ _ (g7 ps' last' hg)
        rw [List.append_assoc]; exact this
      · rw [g4]; exact Nat.le_refl _
    · rw [if_neg (by simp; omega)]
      have hx1 : xs.size = 1 := by have := I.h1; omega
      walk_at "go"
      refine wpAny_Tuple_spliced (arg2 ?_)
      walk_at "go"
      refine ⟨by unfold sizeLine; simp, ?_⟩
      dsimp only
      obtain ⟨v, rfl⟩ : ∃ v, xs = #[v] := by
        obtain ⟨l⟩ := xs
        match l, hx1 with
        | [v], _ => exact ⟨v, rfl⟩
      obtain ⟨a, rfl, i⟩ := I.he v (by simp)
      have up : ∀ (oo : Obj) (b : Addr) (o : Obj), s'.heap.get? b = some o → (s'.heap.push oo).get? b = some o := fun _ _ _ e => Heap.get?_push_of_some _ e
      refine h _ _ prs (entOf s'.heap (.ref a)) (I.T.keeps (up _)) (fun b o hb e => up _ b o (X.F.keep b o ((Heap.hide_ne _ hb).trans e))) hBg hos ⟨P, D, ps, a, Heap.get?_push_size _ rfl, X.hP.at fun o e => up _ _ o e, I.hpr.at (TK.all (up _)), X.hD.at fun o e => up _ _ o e, i.tk (TK.all (up _))⟩ ?_
      have := I.hgr [] (entOf s'.heap (.ref a)) (by exact .one _ _)
      rw [List.append_nil] at this
      exact this
end
end Mine
end P_Nest

/-! Srt -/
section P_Srt
open PySem PySem.W PySem.Calls PyProof.Rows
namespace Mine

def runT {α : Type} : KasT α → (Nat → Nat → Bool) → α
  | .ret a, _ => a
  | .ask i j k, f => runT (k (f i j)) f
def asksIn {α : Type} (n : Nat) : KasT α → Bool
  | .ret _ => true
  | .ask i j k => decide (i < n) && decide (j < n) && asksIn n (k true) && asksIn n (k false)
theorem kasWp_run {α : Type} {n : Nat} {cmp : Nat → Nat → (Bool → Shared → Prop) → Shared → Prop} {f : Nat → Nat → Bool} {s : Shared} (hc : ∀ i j, i < n → j < n → ∀ C, C (f i j) s → cmp i j C s) {Q : α → Shared → Prop} :
    ∀ t : KasT α, asksIn n t = true → Q (runT t f) s → t.kasWp cmp Q s
  | .ret a, _, h => h
  | .ask i j k, hi, h => by
    unfold asksIn at hi
    simp only [Bool.and_eq_true, decide_eq_true_eq] at hi
    obtain ⟨⟨⟨h1, h2⟩, h3⟩, h4⟩ := hi
    refine hc i j h1 h2 _ ?_
    refine kasWp_run hc (k (f i j)) ?_ h
    cases f i j
    · exact h4
    · exact h3
theorem runT_congr {α : Type} {n : Nat} {f g : Nat → Nat → Bool} (hc : ∀ i j, i < n → j < n → f i j = g i j) : ∀ t : KasT α, asksIn n t = true → runT t f = runT t g
  | .ret _, _ => rfl
  | .ask i j k, hi => by
    unfold asksIn at hi
    simp only [Bool.and_eq_true, decide_eq_true_eq] at hi
    obtain ⟨⟨⟨h1, h2⟩, h3⟩, h4⟩ := hi
    show runT (k (f i j)) f = runT (k (g i j)) g
    rw [hc i j h1 h2]
    refine runT_congr hc _ ?_
    cases g i j
    · exact h4
    · exact h3
theorem asks2 : asksIn 2 (kas_sort 2) = true := by decide +kernel
theorem asks3 : asksIn 3 (kas_sort 3) = true := by decide +kernel
theorem asks4 : asksIn 4 (kas_sort 4) = true := by decide +kernel
theorem asks5 : asksIn 5 (kas_sort 5) = true := by decide +kernel

def good (n : Nat) (r : List Nat) : Bool :=
  let p := (runT (kas_sort n) fun i j => decide (r.getD i 0 < r.getD j 0)).toList
  p.isPerm (List.range n) && decide (p.Pairwise fun i j => r.getD i 0 ≤ r.getD j 0)
def lists (n : Nat) : Nat → List (List Nat)
  | 0 => [[]]
  | k + 1 => (lists n k).flatMap fun l => ((List.range n).filter fun x => !l.contains x).map fun x => x :: l
theorem good2 : (lists 2 2).all (good 2) = true := by decide +kernel
theorem good3 : (lists 3 3).all (good 3) = true := by decide +kernel
theorem good4 : (lists 4 4).all (good 4) = true := by decide +kernel
theorem good5 : (lists 5 5).all (good 5) = true := by decide +kernel
end Mine
end P_Srt

/-! Srt2 -/
section P_Srt2
open PySem PySem.W PySem.Calls PyProof.Rows
namespace Mine

theorem lists_mem (n : Nat) : ∀ (k : Nat) (l : List Nat), l.length = k → (∀ x ∈ l, x < n) → l.Nodup → l ∈ lists n k
  | 0, l, h, _, _ => by
    rw [List.length_eq_zero_iff.mp h]; exact List.mem_singleton.mpr rfl
  | k + 1, l, h, hx, hd => by
    match l, h with
    | x :: r, h =>
      unfold lists
      have hd' := List.nodup_cons.mp hd
      refine List.mem_flatMap.mpr ⟨r, lists_mem n k r (by simpa using h) (fun y hy => hx y (List.mem_cons_of_mem _ hy)) hd'.2, ?_⟩
      refine List.mem_map.mpr ⟨x, List.mem_filter.mpr ⟨List.mem_range.mpr (hx x List.mem_cons_self), ?_⟩, rfl⟩
      simpa using hd'.1

def rank (K : Nat → Int) (n : Nat) (x : Int) : Nat := (List.range n).countP fun j => decide (K j < x)
theorem countP_lt {p q : Nat → Bool} : ∀ {l : List Nat}, (∀ x ∈ l, p x = true → q x = true) → (∃ x ∈ l, q x = true ∧ p x = false) → l.countP p < l.countP q
  | [], _, h => by obtain ⟨x, hx, _⟩ := h; cases hx
  | y :: l, h, h' => by
    rw [List.countP_cons, List.countP_cons]
    have hm : l.countP p ≤ l.countP q := List.countP_mono_left fun x hx e => h x (List.mem_cons_of_mem _ hx) e
    obtain ⟨x, hx, hq, hp⟩ := h'
    rcases List.mem_cons.mp hx with rfl | hx
    · rw [hq, hp]; simp; omega
    · have := countP_lt (l := l) (fun z hz e => h z (List.mem_cons_of_mem _ hz) e) ⟨x, hx, hq, hp⟩
      have hy := h y List.mem_cons_self
      cases e1 : p y <;> cases e2 : q y <;> simp <;> first | omega | (rw [e1, e2] at hy; simp at hy)
theorem rank_lt {K : Nat → Int} {n i j : Nat} (hi : i < n) : K i < K j ↔ rank K n (K i) < rank K n (K j) := by
  constructor
  · intro h
    refine countP_lt (fun x _ e => ?_) ⟨i, List.mem_range.mpr hi, by simpa using h, by simp⟩
    simp only [decide_eq_true_eq] at e ⊢
    omega
  · intro h
    rcases Int.lt_or_le (K i) (K j) with q | q
    · exact q
    · have : rank K n (K j) ≤ rank K n (K i) := List.countP_mono_left fun x _ e => by
        simp only [decide_eq_true_eq] at e ⊢; omega
      omega
theorem rank_bound {K : Nat → Int} {n i : Nat} (hi : i < n) : rank K n (K i) < n := by
  have : rank K n (K i) < (List.range n).countP fun _ => true := countP_lt (fun _ _ _ => rfl) ⟨i, List.mem_range.mpr hi, rfl, by simp⟩
  simpa using this

theorem sorts {n : Nat} (hn : n = 2 ∨ n = 3 ∨ n = 4 ∨ n = 5) (K : Nat → Int) (hK : ∀ i j, i < n → j < n → i ≠ j → K i ≠ K j) :
    asksIn n (kas_sort n) = true ∧ (runT (kas_sort n) fun i j => decide (K i < K j)).toList.Perm (List.range n) ∧ (runT (kas_sort n) fun i j => decide (K i < K j)).toList.Pairwise fun i j => K i ≤ K j := by
  have ha : asksIn n (kas_sort n) = true := by
    rcases hn with rfl | rfl | rfl | rfl
    · exact asks2
    · exact asks3
    · exact asks4
    · exact asks5
  have hg : (lists n n).all (good n) = true := by
    rcases hn with rfl | rfl | rfl | rfl
    · exact good2
    · exact good3
    · exact good4
    · exact good5
  have hr : ∀ i, i < n → ((List.range n).map fun i => rank K n (K i)).getD i 0 = rank K n (K i) := fun i hi => by
    simp [List.getD, hi]
  have h1 := List.all_eq_true.mp hg ((List.range n).map fun i => rank K n (K i)) (lists_mem n n _ (by simp) (fun x hx => by
    obtain ⟨i, hi, rfl⟩ := List.mem_map.mp hx
    exact rank_bound (List.mem_range.mp hi)) (by
    rw [List.nodup_iff_pairwise_ne, List.pairwise_map]
    refine List.pairwise_lt_range.imp_of_mem fun {i j} hi hj hij e => ?_
    have hi' := List.mem_range.mp hi
    have hj' := List.mem_range.mp hj
    have hne := hK i j hi' hj' (by omega)
    rcases Int.lt_or_gt_of_ne hne with q | q
    · have := (rank_lt (K := K) (n := n) (j := j) hi').mp q; omega
    · have := (rank_lt (K := K) (n := n) (j := i) hj').mp q; omega))
  have he : (runT (kas_sort n) fun i j => decide (K i < K j)) = runT (kas_sort n) fun i j => decide (((List.range n).map fun i => rank K n (K i)).getD i 0 < ((List.range n).map fun i => rank K n (K i)).getD j 0) :=
    runT_congr (n := n) (fun i j hi hj => by rw [hr i hi, hr j hj, decide_eq_decide]; exact rank_lt hi) _ ha
  unfold good at h1
  rw [← he] at h1
  simp only [Bool.and_eq_true, List.isPerm_iff, decide_eq_true_eq] at h1
  obtain ⟨h2, h3⟩ := h1
  refine ⟨ha, h2, h3.imp_of_mem fun {a b} ha' hb' hab => ?_⟩
  have hb := List.mem_range.mp (h2.mem_iff.mp hb')
  have haa := List.mem_range.mp (h2.mem_iff.mp ha')
  rw [hr a haa, hr b hb] at hab
  rcases Int.lt_or_le (K b) (K a) with q | q
  · have := (rank_lt (K := K) (j := a) hb).mp q; omega
  · exact q

/-- the sorted list -/
def sortA (lt : Value → Value → Bool) (vs : List Value) : List Value := (runT (kas_sort vs.length) fun i j => lt (vs.getD i .none) (vs.getD j .none)).toList.map fun i => vs.getD i .none
theorem map_range_getD (vs : List Value) : (List.range vs.length).map (fun i => vs.getD i .none) = vs := by
  refine List.ext_getElem (by simp) fun i h1 h2 => ?_
  simp at h1
  simp [List.getD, h1]
theorem sortP {lt : Value → Value → Bool} {K : Value → Int} {vs : List Value} (h2 : 2 ≤ vs.length) (h5 : vs.length ≤ 5) (hd : vs.Pairwise fun a b => K a ≠ K b) (hk : ∀ v ∈ vs, ∀ u ∈ vs, lt v u = decide (K v < K u)) :
    (sortA lt vs).Perm vs ∧ (sortA lt vs).Pairwise fun a b => K a ≤ K b := by
  obtain ⟨ha, hp, hs⟩ := sorts (n := vs.length) (by omega) (fun i => K (vs.getD i .none)) (fun i j hi hj hij => by
    have ei : vs.getD i .none = vs[i] := by rw [List.getD_eq_getElem?_getD, List.getElem?_eq_getElem hi]; rfl
    have ej : vs.getD j .none = vs[j] := by rw [List.getD_eq_getElem?_getD, List.getElem?_eq_getElem hj]; rfl
    rw [ei, ej]
    rcases Nat.lt_or_gt_of_ne hij with q | q
    · exact List.pairwise_iff_getElem.mp hd i j hi hj q
    · exact Ne.symm (List.pairwise_iff_getElem.mp hd j i hj hi q))
  have hm : ∀ i, i < vs.length → vs.getD i .none ∈ vs := fun i hi => by simp [List.getD, hi]
  have he : (runT (kas_sort vs.length) fun i j => lt (vs.getD i .none) (vs.getD j .none)) = runT (kas_sort vs.length) fun i j => decide (K (vs.getD i .none) < K (vs.getD j .none)) :=
    runT_congr (n := vs.length) (fun i j hi hj => hk _ (hm i hi) _ (hm j hj)) _ ha
  unfold sortA
  rw [he]
  constructor
  · have := hp.map fun i => vs.getD i .none
    rw [map_range_getD] at this
    exact this
  · rw [List.pairwise_map]
    exact hs

section
variable {prog : Program} {w : World} {A : Around} {E : Value → Shared → Prop} {s : Shared}
theorem ask_ent {ent : Value → Ent} {v u : Value} {C : Bool → Shared → Prop} (hv : ∃ a, v = .ref a ∧ IsEnt s.heap a (ent v)) (hw : ∃ a, u = .ref a ∧ IsEnt s.heap a (ent u)) (h : C (ltV ent v u) s) :
    wpAny (model prog w) A (keyLt' (tuples' true) v u) C E s := by
  obtain ⟨a, rfl, t1, t2, t3, g1⟩ := hv
  obtain ⟨b, rfl, u1, u2, u3, g2⟩ := hw
  unfold ltV at h
  generalize ent (.ref a) = x at g1 h
  generalize ent (.ref b) = y at g2 h
  refine kat_lt g1 rfl g2 rfl ?_
  show KatLex prog w A true (decide (3 < 3)) C [(.int x.m t1, .int y.m u1), (.int x.p t2, .int y.p u2), (.str x.x t3, .str y.x u3)] 0 s
  refine kat_cons (wpAny_eqBool_int ?_)
  unfold ltE at h
  by_cases h1 : x.m = y.m
  · rw [h1, beq_self_eq_true]
    rw [if_pos h1] at h
    refine kat_yes (kat_cons (wpAny_eqBool_int ?_))
    by_cases h2 : x.p = y.p
    · rw [h2, beq_self_eq_true]
      rw [if_pos h2] at h
      refine kat_yes (kat_cons (PyProof.Rows.eqBool_str ?_))
      by_cases h3 : x.x = y.x
      · rw [h3, beq_self_eq_true]
        rw [if_pos h3] at h
        exact kat_yes (kat_nil h)
      · rw [show (x.x == y.x) = false from beq_eq_false_iff_ne.mpr h3]
        rw [if_neg h3] at h
        exact kat_no (kat_one _ _ (rc_str h))
    · rw [show (x.p == y.p) = false from beq_eq_false_iff_ne.mpr h2]
      rw [if_neg h2] at h
      exact kat_no (kat_one _ _ (rc_int h))
  · rw [show (x.m == y.m) = false from beq_eq_false_iff_ne.mpr h1]
    rw [if_neg h1] at h
    exact kat_no (oneLt_int h)
end
end Mine
end P_Srt2

/-! Srt3 -/
section P_Srt3
open PySem PySem.W PySem.Calls PyProof.Rows
namespace Mine

/-- all that lies above the base, but for two places -/
def live (b : Heap) (L D : Addr) (h : Heap) : List (Addr × Obj) :=
  (List.range h.objs.size).filterMap fun a => if a = L ∨ a = D ∨ (b.get? a).isSome then none else (h.get? a).map fun o => (a, o)
theorem live_spec {b h : Heap} {L D : Addr} {p : Addr × Obj} (hp : p ∈ live b L D h) : h.get? p.1 = some p.2 ∧ p.1 ≠ L ∧ p.1 ≠ D ∧ b.get? p.1 = none := by
  obtain ⟨a, _, e⟩ := List.mem_filterMap.mp hp
  split at e
  · cases e
  · rename_i hn
    cases eo : h.get? a with
    | none => rw [eo] at e; cases e
    | some o =>
      rw [eo] at e
      cases e
      refine ⟨eo, fun q => hn (.inl q), fun q => hn (.inr (.inl q)), ?_⟩
      cases eb : b.get? a with
      | none => rfl
      | some _ => exact absurd (.inr (.inr (by rw [eb]; rfl))) hn
theorem live_mem {b h : Heap} {L D a : Addr} {o : Obj} (e : h.get? a = some o) (h1 : a ≠ L) (h2 : a ≠ D) (h3 : b.get? a = none) : (a, o) ∈ live b L D h := by
  refine List.mem_filterMap.mpr ⟨a, List.mem_range.mpr (Heap.lt_size e), ?_⟩
  rw [if_neg (by rintro (q | q | q); exact h1 q; exact h2 q; rw [h3] at q; cases q), e]
  rfl
theorem ents_tups {h : Heap} {ent : Value → Ent} : ∀ {vs : List Value}, Ents h ent vs → ∃ fs, KatTups h vs fs ∧ fs.length = vs.length ∧ ∀ v ∈ fs, ∃ n t, v = .int n t
  | [], _ => ⟨[], .nil, rfl, fun _ h => nomatch h⟩
  | v :: vs, he => by
    obtain ⟨fs, k, l, i⟩ := ents_tups (vs := vs) fun u hu => he u (List.mem_cons_of_mem _ hu)
    obtain ⟨a, rfl, t1, t2, t3, g⟩ := he v List.mem_cons_self
    refine ⟨.int (ent (.ref a)).m t1 :: fs, .cons g rfl rfl rfl k, by simp [l], fun u hu => ?_⟩
    rcases List.mem_cons.mp hu with rfl | hu
    · exact ⟨_, _, rfl⟩
    · exact i u hu

section
variable {prog : Program} {w : World} {A : Around} {E : Value → Shared → Prop} {s : Shared}
theorem sort_spec {b : Heap} {L D : Addr} {m : Str → Option Value} {xs : Array Value} {ent : Value → Ent} {Q : Value → Shared → Prop} (F : Fr b L s.heap m) (hD : s.heap.PlainList D xs) (hDb : b.get? D = none) (he : Ents s.heap ent xs.toList) (h2 : 2 ≤ xs.size) (h5 : xs.size ≤ 5)
    (h : ∀ h', Fr b L h' m → h'.PlainList D (sortA (ltV ent) xs.toList).toArray → (∀ a o, a ≠ D → a ≠ L → s.heap.get? a = some o → h'.get? a = some o) → Q .none { s with heap := h' }) :
    wpAny (model prog w) A (call (.builtin "list.sort") [.ref D]) Q E s := by
  have hDL := list_ns hD F.ns
  obtain ⟨n, ho⟩ := id hD
  have hl : xs.toList.length = xs.size := by simp
  have N : News b L s.heap ((D, listOf xs n) :: live b L D s.heap) := fun p hp => by
    rcases List.mem_cons.mp hp with rfl | hp
    · exact ⟨ho, hDL, hDb⟩
    · have := live_spec hp; exact ⟨this.1, this.2.1, this.2.2.2⟩
  have hap : ∀ p ∈ live b L D s.heap, p.1 ≠ D := fun p hp => (live_spec hp).2.2.1
  have keep : ∀ {h' : Heap} {o' : Obj}, Fr b L h' m → News b L h' ((D, o') :: live b L D s.heap) → ∀ a o, a ≠ D → a ≠ L → s.heap.get? a = some o → h'.get? a = some o := fun F' N' a o h1 h2 e => by
    cases eb : b.get? a with
    | none => exact (N' _ (List.mem_cons_of_mem _ (live_mem e h2 h1 eb))).1
    | some o'' =>
      have := F.keep a o'' eb
      rw [e] at this; cases this
      exact F'.keep a o eb
  refine kat_lsort (vs := xs.toList) F N (.head hap) rfl (by omega) (by omega) ?_
  intro e1 h' F' N'
  have he' : Ents h' ent xs.toList := fun v hv => by
    obtain ⟨a, rfl, i⟩ := he v hv
    refine ⟨a, rfl, i.keeps fun o e => keep F' N' a o (isEnt_ne i hD) (fun q => ?_) e⟩
    obtain ⟨_, _, _, g⟩ := i
    obtain ⟨o', _, _, e', d', _⟩ := F.ns
    rw [q, e'] at g; cases g; cases d'
  obtain ⟨fs, ht, hfl, hfi⟩ := ents_tups he'
  refine kat_kind (T := .type "int") ht (by omega) (fun v hv => by obtain ⟨n, t, rfl⟩ := hfi v hv; exact Looks.of_pure rfl) (by decide) ?_
  rw [show (Value.type "int" != Value.type "tuple") = true by decide]
  have hm : ∀ i, i < xs.toList.length → xs.toList.getD i .none ∈ xs.toList := fun i hi => by
    rw [List.getD_eq_getElem?_getD, List.getElem?_eq_getElem hi]; exact List.getElem_mem hi
  obtain ⟨ha, _, _⟩ := sorts (n := xs.toList.length) (by omega) (fun i => (i : Int)) (fun i j _ _ hij => by omega)
  refine kasWp_run (n := xs.toList.length) (f := fun i j => ltV ent (xs.toList.getD i .none) (xs.toList.getD j .none)) (fun i j hi hj C hC => ?_) _ ha ?_
  · exact ask_ent (he' _ (hm i hi)) (he' _ (hm j hj)) hC
  · refine KasFin.intro F' N' (.head hap) ?_
    intro h'' c F'' N''
    exact h h'' F'' ⟨c, (N'' _ List.mem_cons_self).1⟩ (keep F'' N'')
end
end Mine
end P_Srt3

/-! Due -/
section P_Due
open PySem PySem.W PySem.Calls PyProof.Rows
namespace Mine
local macro_rules | `(tactic| walk_at "ld") => `(tactic| (((with_reducible refine' NS.ld (by assumption) ?mv ?_ ?mk ?ml ?md)); (case mv => first | exact rfl | assumption); (case mk => exact rfl); (case ml => exact rfl); (case md => decide)))
local macro_rules | `(tactic| walk_at "st") => `(tactic| ((with_reducible refine NS.st (by assumption) ?_ ?mk ?ml); (case mk => exact rfl); (case ml => exact rfl)))
local macro_rules | `(tactic| walk_at "1") => `(tactic| first
  | with_reducible refine wpAny_execs_cons ?_
  | with_reducible refine wpAny_execs_nil ?_
  | with_reducible refine wpAny_Return_some ?_
  | with_reducible refine wpAny_If ?_
  | with_reducible refine wpAny_BinOp ?_
  | (with_reducible refine Constant_str ?_; try dsimp only)
  | (with_reducible refine wpAny_Constant_int ?_; try dsimp only)
  | with_reducible refine Subscript_ ?_
  | with_reducible refine isTrue_not ?_
  | with_reducible refine isTrue_and ?_
  | with_reducible refine isTrue_and_nil ?_
  | ((with_reducible refine wpAny_isTrue_Compare1 ?_ ?mh); (case mh => exact rfl))
  | ((with_reducible refine wpAny_Compare1 ?_ ?mh); (case mh => exact rfl))
  | ((with_reducible refine wpAny_Assign_Name ?_ ?mh); (case mh => exact rfl))
  | ((with_reducible refine wpAny_Assign_Subscript ?_ ?mh); (case mh => exact rfl))
  | walk_at "ld"
  | ((with_reducible refine isTrue_plain ?_ ?mh); (case mh => exact rfl))
  | ((with_reducible refine mcallN ?_ ?mh ?mi); (case mh => exact rfl); (case mi => exact rfl))
  | ((with_reducible refine mcallC ?_ ?mh ?mi); (case mh => exact rfl); (case mi => exact rfl))
  | ((with_reducible refine mcallF ?_ ?mh ?mi); (case mh => exact rfl); (case mi => exact rfl))
  | with_reducible refine wpAny_truthy_bool ?_
  | (with_reducible refine PyProof.Rows.add_int ?_; try dsimp only)
  | (with_reducible refine PyProof.Rows.sub_int ?_; try dsimp only)
  | with_reducible refine PyProof.Rows.gt_int ?_
  | with_reducible refine PyProof.Rows.lt_int ?_
  | with_reducible refine PyProof.Rows.eq_int ?_
  | with_reducible refine PyProof.Rows.ne_int ?_
  | with_reducible refine isTrue_and ?_
  | with_reducible refine isTrue_and_nil ?_
  | ((with_reducible refine wpAny_Expr_any ?_ ?mh ?mi); (case mh => exact rfl); (case mi => exact rfl))
  | (with_reducible refine PyProof.Rows.mul_int ?_ (IntMulOk.of_left (by decide)); try dsimp only)
  | with_reducible refine wpAny_Break ?_
  | with_reducible refine wpAny_Continue ?_)
local macro_rules | `(tactic| walk_at "go") => `(tactic| repeat walk_at "1")

section
variable {prog : Program} {w : World} {A : Around} {E : Value → Shared → Prop} {s : Shared} {mg mb : Str → Option Value} {g : Heap}

theorem due_step {xs : Array Value} {ent : Value → Ent} {p : Int} (h2 : 2 ≤ xs.size) (h5 : xs.size ≤ 5) (hd : PD p (xs.toList.map ent)) (hp0 : 0 ≤ p) (hp9 : p ≤ 900) :
    ∃ y0 y1 r, sortA (ltV ent) xs.toList = y0 :: y1 :: r ∧ y0 ∈ xs.toList ∧ y1 ∈ xs.toList ∧ (∀ u ∈ r, u ∈ xs.toList) ∧ r.length + 2 = xs.size ∧
      (∀ (ent' : Value → Ent) (v : Value), (∀ u ∈ xs.toList, ent' u = ent u) → ent' v = mkE (ent y0) (ent y1) p → PD (p + 1) ((r ++ [v]).map ent') ∧ ∀ ps' last', Gr (p + 1) ((r ++ [v]).map ent') ps' last' → Gr p (xs.toList.map ent) ((ent y0, ent y1) :: ps') last') := by
  have hkd : xs.toList.Pairwise fun a b => key (ent a) ≠ key (ent b) := by
    have hpw := List.pairwise_map.mp hd.2
    refine hpw.imp_of_mem fun {a b} ha hb hab e => hab ?_
    have r1 := hd.1 _ (List.mem_map_of_mem ha)
    have r2 := hd.1 _ (List.mem_map_of_mem hb)
    unfold key at e
    omega
  obtain ⟨q1, q2⟩ := sortP (K := fun v => key (ent v)) (by simpa using h2) (by simpa using h5) hkd (ltV_key hd (by omega))
  have hl := q1.length_eq
  simp only [Array.length_toList] at hl
  generalize sortA (ltV ent) xs.toList = ys at q1 q2 hl
  match ys, hl with
  | [], hl => simp at hl; omega
  | [_], hl => simp at hl; omega
  | y0 :: y1 :: r, hl =>
    have sub : ∀ u ∈ y0 :: y1 :: r, u ∈ xs.toList := fun u hu => q1.mem_iff.mp hu
    refine ⟨y0, y1, r, rfl, sub _ List.mem_cons_self, sub _ (List.mem_cons_of_mem _ List.mem_cons_self), fun u hu => sub _ (List.mem_cons_of_mem _ (List.mem_cons_of_mem _ hu)), by simpa using hl, fun ent' v agree hv => ?_⟩
    have q3 : (ent y0 :: ent y1 :: r.map ent).Perm (xs.toList.map ent) := q1.map ent
    have hd2 := hd.perm q3.symm
    have er : r.map ent' = r.map ent := List.map_congr_left fun u hu => agree u (sub u (List.mem_cons_of_mem _ (List.mem_cons_of_mem _ hu)))
    have q4 : (mkE (ent y0) (ent y1) p :: r.map ent).Perm ((r ++ [v]).map ent') := by
      rw [List.map_append, er, List.map_cons, List.map_nil, hv]
      exact (List.perm_append_singleton _ _).symm
    refine ⟨(hd2.tail.tail.next hp0 rfl).perm q4, fun ps' last' hg => .step q3.symm ?_ ?_ (hg.perm q4.symm)⟩
    · intro x hx
      obtain ⟨u, hu, rfl⟩ : ∃ u ∈ y1 :: r, ent u = x := List.mem_map.mp hx
      exact (List.pairwise_cons.mp q2).1 u hu
    · intro x hx
      obtain ⟨u, hu, rfl⟩ := List.mem_map.mp hx
      exact (List.pairwise_cons.mp (List.pairwise_cons.mp q2).2).1 u hu

/-- what stands at the head of the loop -/
structure DI (b : Heap) (L c D P W : Addr) (ws : Array Value) (h : Heap) (m : Str → Option Value) (xs ps : Array Value) (prs : List (Ent × Ent)) : Prop where
  X : NS b L c D P (.ref W) h m xs ps
  he : Ents h (entOf h) xs.toList
  hd : PD ((ws.size : Int) + (prs.length : Int)) (xs.toList.map (entOf h))
  hn : xs.size + prs.length = ws.size
  h1 : 1 ≤ xs.size
  htx : ∀ v ∈ xs.toList, Ok (entOf h v).x ∧ (entOf h v).x.length ≤ Bnd prs.length
  hpr : ArePairs h ps.toList prs
  hgr : ∀ ps' last', Gr ((ws.size : Int) + (prs.length : Int)) (xs.toList.map (entOf h)) ps' last' → Gr ws.size (ent0 ws.toList) (prs ++ ps') last'
  m1 : m (Str.ofString "left") = some (.ref D)
  m2 : m (Str.ofString "pairs") = some (.ref P)

theorem meth_sort {l : Addr} {items : Array Value} {pl : Sem Bool} {Q : Value × List Value → Shared → Prop} (hl : s.heap.PlainList l items) (h : Q (.builtin "list.sort", [.ref l]) s) :
    wpAny (model prog w) A (getMethod (.ref l) "sort" pl) Q E s :=
  getMethod_list_of PySem.F.slot_list_sort PySem.F.type_list_sort hl.isList (let ⟨_, e⟩ := hl; ⟨_, e, rfl⟩) h

theorem due_spec {W : Addr} {ws : Array Value} {Q : Value → Shared → Prop} (G : Gd w mg mb s.heap) (hh : A.handled = none)
    (hroom : A.depth + 10 < recursionLimit) (hu : A.units + 30 < cLine) (hW : s.heap.IsList W ws) (h3 : 3 ≤ ws.size) (h5 : ws.size ≤ 5) (hws : WL ws 24)
    (h : ∀ h' tk a prs last, (∀ b o, s.heap.get? b = some o → h'.get? b = some o) → IsTold h' a prs last → Gr ws.size (ent0 ws.toList) prs last → Q (.ref a) { s with heap := h', toks := tk }) :
    wpAny (model prog w) A (call (.ref 122) [.ref W]) Q E s := by
  refine' callC (a := 122) (binds := [(Str.ofString "words", .ref W)]) G ?ho ?hcd (by omega) ?hb ?hk ?c1 ?c2 ?c3 ?_
  case ho => exact rfl
  case hcd => kernel_rfl
  case hb => exact rfl
  case hk => intro x hx; rcases List.mem_cons.mp hx with rfl | hx; exact .inr ⟨rfl, rfl⟩; cases hx
  case c1 => exact rfl
  case c2 => exact rfl
  case c3 => exact rfl
  intro h₁ L tk hL F X₀
  obtain ⟨oc, hoc, hocd⟩ : h₁.IsCell (L + 1) (some (.ref W)) := X₀.cell (Str.ofString "words") (L + 1) rfl
  have hcb : s.heap.get? (L + 1) = none := fresh_none (by rw [hL]; exact Nat.le_succ _)
  have N : News s.heap L h₁ [(L + 1, oc)] := fun p hp => by
    rcases List.mem_cons.mp hp with rfl | hp
    · exact ⟨hoc, Nat.ne_of_gt (Nat.lt_succ_self _), hcb⟩
    · cases hp
  walk_at "1"
  refine LCg.Assign_ListComp_U (cl := [(Str.ofString "words", L + 1)]) F rfl rfl (by rfl) (by decide) rfl (by decide) rfl rfl rfl ?_
  refine ctyp (mb := mb) (G.g.keeps F.keep) (G.b.keeps F.keep) G.range (arg1 ?_)
  refine cblt (mb := mb) (G.g.keeps F.keep) (G.b.keeps F.keep) G.len (arg1 ?_)
  refine ldCell (c := L + 1) ⟨oc, hoc, hocd⟩ ?_ rfl rfl rfl (by decide)
  refine call_len_list (hW.at fun o e => F.keep _ o e) (by omega) ?_
  refine call_range_1 ?_
  have up : ∀ (oo : Obj) (b : Addr) (o : Obj), h₁.get? b = some o → (h₁.push oo).get? b = some o := fun _ _ _ e => Heap.get?_push_of_some _ e
  refine LCg.CompSrc.range (n := ws.size) hh (F.keeps (up _)) (N.grown (up _)) (IsRange.new _ _ _ _ _ _ _) (small_range (by omega)) (by rw [rangeSize_one]; split <;> omega) (by unfold sizeLine; omega) ?_
  intro gg
  refine rest_of (Inv0 ws [(L + 1, oc)]) ws.size ?step ?fin ws.size 0 [] _ (by omega) ⟨fun _ hp => hp, rfl, fun j hj => absurd hj (Nat.not_lt_zero j)⟩
  case step =>
    rintro i ys news hi ⟨hc, hlen, hall⟩ v I oI C oC D m₂ h' tk' E' ⟨t, rfl⟩ hn hm F' N' o1 o2
    have hC := (hn.ns (N' (C, oC) (List.mem_cons_of_mem _ List.mem_cons_self)).1)
    have hcell' : ∀ {h'' : Heap}, (∀ b o, h'.get? b = some o → h''.get? b = some o) → h''.IsCell (L + 1) (some (.ref W)) := fun hk => ⟨oc, hk _ _ (N' (L + 1, oc) (List.mem_cons_of_mem _ (List.mem_cons_of_mem _ (List.mem_cons_of_mem _ (hc _ List.mem_cons_self))))).1, hocd⟩
    obtain ⟨x, tx, hx, hxo, hxl⟩ := hws _ (getD_mem hi)
    have hwi : ws[((0 : Int) + (i : Int)).toNat]? = some (.str x tx) := by
      rw [show ((0 : Int) + (i : Int)).toNat = i by omega, getD_some hi, hx]
    refine wpAny_Tuple_spliced (arg3 ?_)
    refine cdef (w := w) (G.g.keeps F'.keep) G.marks (by kernel_rfl) (arg1 ?_)
    refine Subscript_ ?_
    refine ldCell (c := L + 1) (hcell' fun _ _ e => e) ?_ rfl rfl rfl (by decide)
    refine wpAny_Name (wpAny_loadName_local rfl rfl hC hm ?_) (by decide)
    refine item_I (hW.at fun o e => F'.keep _ o e) (by omega) (by omega) hwi ?_ rfl
    refine ⟨G.K.keeps F'.keep, ?_⟩
    refine marks_spec (G.keeps F'.keep) (by show A.depth + 1 + 1 < _; omega) (by omega) ?_
    intro h₂ tk₂ t₂ hk₂
    have F₂ := F'.keeps hk₂
    have N₂ := N'.grown hk₂
    refine wpAny_Name (wpAny_loadName_local rfl rfl (hC.keeps hk₂) hm ?_) (by decide)
    refine Subscript_ ?_
    refine ldCell (c := L + 1) (hcell' hk₂) ?_ rfl rfl rfl (by decide)
    refine wpAny_Name (wpAny_loadName_local rfl rfl (hC.keeps hk₂) hm ?_) (by decide)
    refine item_I (hW.at fun o e => F₂.keep _ o e) (by omega) (by omega) hwi ?_ rfl
    refine ⟨by unfold sizeLine; simp, ?_⟩
    have he : e0 ws i = ⟨marks x, (0 : Int) + (i : Int), x⟩ := by
      unfold e0; rw [hx, Int.zero_add]; rfl
    exact turn_end F₂ N₂ o1 ⟨hc, hlen, hall⟩ he
  case fin =>
    rintro ys news ⟨hc, hlen, hall⟩ D h₂ tk₂ F₂ N₂ off
    have hD₂ : h₂.PlainList D ys.toArray := ⟨_, (N₂ _ List.mem_cons_self).1⟩
    have hDb : s.heap.get? D = none := (N₂ _ List.mem_cons_self).2.2
    have hcell₂ : h₂.IsCell (L + 1) (some (.ref W)) := ⟨oc, (N₂ _ (List.mem_cons_of_mem _ (hc _ List.mem_cons_self))).1, hocd⟩
    have hent : ∀ j, j < ws.size → ∃ a, ys[j]? = some (.ref a) ∧ IsEnt h₂ a (e0 ws j) := fun j hj => by
      obtain ⟨a, t1, t2, t3, e1, e2⟩ := hall j hj
      exact ⟨a, e1, t1, t2, t3, (N₂ _ (List.mem_cons_of_mem _ e2)).1⟩
    obtain ⟨he₂, hm₂⟩ := ents_of hlen hent
    clear hall hent N₂ off
    dsimp only
    walk_at "go"
    refine wpAny_List_spliced ?_
    refine args_nil ?_
    refine ⟨Nat.zero_le _, ?_⟩
    dsimp only
    have hPfree : s.heap.get? h₂.objs.size = none := fresh_none (Nat.le_of_lt (Nat.lt_of_le_of_lt F₂.above F₂.ns.lt))
    have hDlt : D < h₂.objs.size := by obtain ⟨_, e⟩ := hD₂; exact Heap.lt_size e
    have up₃ : ∀ (oo : Obj) (b : Addr) (o : Obj), h₂.get? b = some o → (h₂.push oo).get? b = some o := fun _ _ _ e => Heap.get?_push_of_some _ e
    have X₄ : NS s.heap L (L + 1) D h₂.objs.size (.ref W) (h₂.push { cls := .type "list", data := .seq ([] : List Value).toArray }) _ _ #[] :=
      ⟨F₂.keeps (up₃ _), hcell₂.keeps (up₃ _), hD₂.at fun o e => up₃ _ _ o e, ⟨_, Heap.get?_push_size _ rfl⟩, Nat.ne_of_lt hDlt, hcb, hDb, hPfree⟩
    generalize hP : h₂.objs.size = P at X₄ hPfree ⊢
    walk_at "st"
    intro h₅ X₅ k₅
    have TK₅ : TK h₂ h₅ := (TK.all (up₃ _)).trans (TK.ns X₄.F.ns k₅)
    obtain ⟨he₅, hem₅⟩ := ents_move he₂ TK₅
    have hsz₂ : ys.length = ws.size := hlen
    have hmap : ys.map (entOf h₅) = ent0 ws.toList := by
      rw [List.map_congr_left fun v hv => hem₅ v hv, hm₂]
    obtain ⟨m₅, X₆, e61, e62⟩ : ∃ m₅, NS s.heap L (L + 1) D P (.ref W) h₅ m₅ ys.toArray #[] ∧ m₅ (Str.ofString "left") = some (.ref D) ∧ m₅ (Str.ofString "pairs") = some (.ref P) := ⟨_, X₅, rfl, rfl⟩
    have I₀ : DI s.heap L (L + 1) D P W ws h₅ m₅ ys.toArray #[] [] := by
      refine ⟨X₆, he₅, ?_, ?_, ?_, ?_, .nil, ?_, e61, e62⟩
      · have := ent0_pd ws.toList
        show PD _ (ys.map (entOf h₅))
        rw [hmap]
        simpa using this
      · simp; omega
      · simp; omega
      · intro v hv
        exact ent0_text hws (entOf h₅ v) (hmap ▸ List.mem_map_of_mem hv)
      · intro ps' last' hg
        have hg' : Gr ((ws.size : Int) + (([] : List (Ent × Ent)).length : Int)) (ys.map (entOf h₅)) ps' last' := hg
        rw [hmap] at hg'
        simpa using hg'
    clear hmap he₅ hem₅ TK₅ X₆ X₅ X₄ he₂ hm₂ hcell₂ F₂ hD₂
    walk_at "1"
    refine wpAny_While (codeAny_whileLoop (fun n s' => ∃ (h' : Heap) (tk : Nat) (D : Addr) (m : Str → Option Value) (xs ps : Array Value) (prs : List (Ent × Ent)), s' = { s with heap := h', toks := tk } ∧ DI s.heap L (L + 1) D P W ws h' m xs ps prs ∧ xs.size ≤ n) ?turn ws.size ?start)
    case start => exact ⟨h₅, _, D, _, _, #[], [], rfl, I₀, by have := I₀.hn; simp at this; simp; omega⟩
    rintro n s' ⟨h', tk', D, m, xs, ps, prs, rfl, I, hn⟩
    have X := I.X
    have m1 := I.m1
    have m2 := I.m2
    have hnn := I.hn
    walk_at "go"
    refine cblt (mb := mb) (G.g.keeps X.F.keep) (G.b.keeps X.F.keep) G.len (arg1 ?_)
    walk_at "go"
    refine call_len_list X.hD.isList (by omega) ?_
    walk_at "go"
    by_cases h2 : 2 ≤ xs.size
    · rw [if_pos (by simp; omega)]
      walk_at "go"
      refine meth_sort X.hD ?_
      refine callWith_method0 ?_
      refine sort_spec (ent := entOf h') X.F X.hD X.Db I.he h2 (by omega) ?_
      intro h₁' F₁ hD₁ hk₁
      obtain ⟨y0, y1, r, hs, hy0, hy1, hr, hrl, hstep⟩ := due_step (ent := entOf h') (p := (ws.size : Int) + (prs.length : Int)) h2 (by omega) I.hd (by omega) (by omega)
      rw [hs] at hD₁
      have hDL := list_ns X.hD X.F.ns
      have hPL := list_ns X.hP X.F.ns
      have X₁ : NS s.heap L (L + 1) D P (.ref W) h₁' m (y0 :: y1 :: r).toArray ps :=
        ⟨F₁, (let ⟨o, e, d⟩ := X.cell; ⟨o, hk₁ _ o (Ne.symm (list_cell X.hD X.cell)) (cell_ns X.cell X.F.ns) e, d⟩), hD₁, X.hP.at fun o e => hk₁ _ o (Ne.symm X.DP) hPL e, X.DP, X.cb, X.Db, X.Pb⟩
      have TK₁ : TK h' h₁' := fun a o e c d => hk₁ a o (fun q => by
          obtain ⟨n, e'⟩ := X.hD
          rw [q, e'] at e; cases e; have c' : Value.type "list" = Value.type "tuple" := c; exact absurd (Value.type.inj c') (by decide)) (fun q => by
          obtain ⟨o', _, _, e', d', _⟩ := X.F.ns
          rw [q, e'] at e; cases e
          obtain ⟨_, _, d⟩ := d
          rw [d'] at d; cases d) e
      obtain ⟨a0, ea0, i0⟩ := I.he _ hy0
      obtain ⟨a1, ea1, i1⟩ := I.he _ hy1
      obtain ⟨o0, l0⟩ := I.htx _ hy0
      obtain ⟨o1, l1⟩ := I.htx _ hy1
      have hB3 : Bnd prs.length ≤ 24555 := by
        have : prs.length = 0 ∨ prs.length = 1 ∨ prs.length = 2 ∨ prs.length = 3 := by omega
        rcases this with q | q | q | q <;> rw [q] <;> decide
      have sl0 := spell_len (entOf h' y0).x
      have sl1 := spell_len (entOf h' y1).x
      dsimp only
      walk_at "go"
      refine cdef (w := w) (G.g.keeps X₁.F.keep) G.spelled (by kernel_rfl) (arg1 ?_)
      walk_at "go"
      refine item_c X₁.hD (by decide) (by decide) (x := y0) rfl ?_
      rw [ea0]
      walk_at "go"
      refine ent_text (i0.tk TK₁) (fun t0 => ?_) rfl
      refine ⟨G.K.keeps X₁.F.keep, ?_⟩
      refine spelled_spec (G.keeps X₁.F.keep) (by show A.depth + 1 + 1 < _; omega) (by omega) ?_
      intro h₂ tk₂ t₂ k₂
      have X₂ := X₁.kept k₂
      dsimp only
      walk_at "go"
      rw [lit_b]
      refine PyProof.Rows.add_str ?_ (by have : bS.length = 1 := rfl; unfold sizeLine; omega)
      intro t₃ tk₃
      dsimp only
      refine cdef (w := w) (G.g.keeps X₂.F.keep) G.spelled (by kernel_rfl) (arg1 ?_)
      walk_at "go"
      refine item_c X₂.hD (by decide) (by decide) (x := y1) rfl ?_
      rw [ea1]
      walk_at "go"
      refine ent_text (i1.tk (TK₁.trans (TK.all k₂))) (fun t1 => ?_) rfl
      refine ⟨G.K.keeps X₂.F.keep, ?_⟩
      refine spelled_spec (G.keeps X₂.F.keep) (by show A.depth + 1 + 1 < _; omega) (by omega) ?_
      intro h₃ tk₄ t₄ k₃
      have X₃ := X₂.kept k₃
      have TK₃ : TK h' h₃ := TK₁.trans ((TK.all k₂).trans (TK.all k₃))
      dsimp only
      refine PyProof.Rows.add_str ?_ (by rw [Str.length_append]; have : bS.length = 1 := rfl; unfold sizeLine; omega)
      intro t₅ tk₅
      dsimp only
      rw [show spell (entOf h' y0).x ++ bS ++ spell (entOf h' y1).x = lineOf (entOf h' y0).x (entOf h' y1).x from rfl]
      generalize hline : lineOf (entOf h' y0).x (entOf h' y1).x = line at *
      have hlok : Ok line := hline ▸ line_ok o0 o1
      have hlle : line.length ≤ Bnd (prs.length + 1) := hline ▸ line_len l0 l1
      have hB4 : Bnd (prs.length + 1) ≤ 245555 := by show 10 * Bnd prs.length + 5 ≤ _; omega
      walk_at "st"
      intro h₄ X₄ k₄
      have TK₄ : TK h' h₄ := TK₃.trans (TK.ns X₃.F.ns k₄)
      dsimp only
      walk_at "go"
      refine wpAny_Tuple_spliced (arg3 ?_)
      refine cdef (w := w) (G.g.keeps X₄.F.keep) G.marks (by kernel_rfl) (arg1 ?_)
      walk_at "go"
      refine ⟨G.K.keeps X₄.F.keep, ?_⟩
      refine marks_spec (G.keeps X₄.F.keep) (by show A.depth + 1 + 1 < _; omega) (by omega) ?_
      intro h₅ tk₆ t₆ k₅
      have X₅ := X₄.kept k₅
      have TK₅ := TK₄.trans (TK.all k₅)
      dsimp only
      walk_at "go"
      refine cblt (mb := mb) (G.g.keeps X₅.F.keep) (G.b.keeps X₅.F.keep) G.len (arg1 ?_)
      refine ldCell (c := L + 1) X₅.cell ?_ rfl rfl rfl (by decide)
      refine call_len_list (hW.at fun o e => X₅.F.keep _ o e) (by omega) ?_
      dsimp only
      refine cblt (mb := mb) (G.g.keeps X₅.F.keep) (G.b.keeps X₅.F.keep) G.len (arg1 ?_)
      walk_at "go"
      have hpsz : ps.size = prs.length := by have := I.hpr.length; simpa using this
      refine call_len_list X₅.hP.isList (by omega) ?_
      dsimp only
      walk_at "go"
      refine ⟨by unfold sizeLine; simp, ?_⟩
      dsimp only
      have iN : IsEnt (h₅.push { cls := .type "tuple", data := .seq #[Value.int (marks line) t₆, Value.int ((ws.size : Int) + (ps.size : Int)) (tk₆ + 1 + 1 + 1 + 1), Value.str line t₅] }) h₅.objs.size ⟨marks line, (ws.size : Int) + (ps.size : Int), line⟩ :=
        ⟨_, _, _, Heap.get?_push_size _ rfl⟩
      have k₆ : ∀ (b : Addr) (o : Obj), h₅.get? b = some o → (h₅.push { cls := .type "tuple", data := .seq #[Value.int (marks line) t₆, Value.int ((ws.size : Int) + (ps.size : Int)) (tk₆ + 1 + 1 + 1 + 1), Value.str line t₅] }).get? b = some o := fun _ _ e => Heap.get?_push_of_some _ e
      generalize hH₆ : h₅.push { cls := .type "tuple", data := .seq #[Value.int (marks line) t₆, Value.int ((ws.size : Int) + (ps.size : Int)) (tk₆ + 1 + 1 + 1 + 1), Value.str line t₅] } = h₆ at iN k₆ ⊢
      generalize hTn : h₅.objs.size = Tn at iN ⊢
      have X₆ := X₅.kept k₆
      have TK₆ := TK₅.trans (TK.all k₆)
      clear X₁ X₂ X₃ X₄ X₅ TK₃ TK₄ TK₅ TK₁
      walk_at "st"
      intro h₇ X₇ k₇
      have TKa₇ : TK h₆ h₇ := TK.ns X₆.F.ns k₇
      dsimp only
      walk_at "go"
      obtain ⟨np, hPo⟩ := X₇.hP
      refine getMethod_list_append hPo rfl rfl ?_
      refine callWith_method1 (arg1 ?_)
      refine wpAny_Tuple_spliced (arg2 ?_)
      walk_at "go"
      refine item_c X₇.hD (by decide) (by decide) (x := y0) rfl ?_
      rw [ea0]
      walk_at "go"
      refine item_c X₇.hD (by decide) (by decide) (x := y1) rfl ?_
      rw [ea1]
      refine ⟨by unfold sizeLine; simp, ?_⟩
      dsimp only
      have k₈ : ∀ (b : Addr) (o : Obj), h₇.get? b = some o → (h₇.push { cls := .type "tuple", data := .seq [Value.ref a0, Value.ref a1].toArray }).get? b = some o := fun _ _ e => Heap.get?_push_of_some _ e
      have hPr : (h₇.push { cls := .type "tuple", data := .seq [Value.ref a0, Value.ref a1].toArray }).get? h₇.objs.size = some (pairObj (.ref a0) (.ref a1)) := Heap.get?_push_size _ rfl
      have X₈ := X₇.kept k₈
      refine wpAny_list_append_plain X₈.hP ?_ (by unfold sizeLine; omega)
      intro h₉ hP₉ s₉
      have k₉ : ∀ a o, a ≠ P → (h₇.push { cls := .type "tuple", data := .seq [Value.ref a0, Value.ref a1].toArray }).get? a = some o → h₉.get? a = some o := fun a o ha e => s₉.extBut a o ha e
      have X₉ := X₈.turnP hP₉ k₉
      have TKa₉ : TK h₆ h₉ := (TKa₇.trans (TK.all k₈)).trans (TK.list X₈.hP k₉)
      dsimp only
      iterate 3 walk_at "1"
      refine wpAny_Subscript_list_slice ?_
      walk_at "go"
      refine evalPart_some_step ?_
      walk_at "go"
      refine evalPart_none_step ?_
      refine ⟨D, _, some 2, none, rfl, X₉.hD.isList, by simp; unfold sizeLine; omega, .int _ _, .none, ?_⟩
      rw [show slicePick (y0 :: y1 :: r).toArray (some 2) none none = r.toArray from slicePick_from' _ 2]
      dsimp only
      have hR : PySem.IsL ((h₉.push { cls := .type "slice", data := .fields #[Value.int 2 (tk₆ + 1 + 1 + 1 + 1 + 1 + 1 + 1 + 1), Value.none, Value.none] }).push { cls := .type "list", data := .seq r.toArray }) (h₉.objs.size + 1) r.toArray 0 := by
        have e : h₉.objs.size + 1 = (h₉.push { cls := .type "slice", data := .fields #[Value.int 2 (tk₆ + 1 + 1 + 1 + 1 + 1 + 1 + 1 + 1), Value.none, Value.none] }).objs.size := (Heap.size_push _ _).symm
        rw [e]
        exact PySem.IsL.new _ _
      have k₁₀ : ∀ b o, h₉.get? b = some o → ((h₉.push { cls := .type "slice", data := .fields #[Value.int 2 (tk₆ + 1 + 1 + 1 + 1 + 1 + 1 + 1 + 1), Value.none, Value.none] }).push { cls := .type "list", data := .seq r.toArray }).get? b = some o := fun _ _ e => Heap.get?_push_of_some _ (Heap.get?_push_of_some _ e)
      generalize hH₁₀ : (h₉.push { cls := .type "slice", data := .fields #[Value.int 2 (tk₆ + 1 + 1 + 1 + 1 + 1 + 1 + 1 + 1), Value.none, Value.none] }).push { cls := .type "list", data := .seq r.toArray } = h₁₀ at hR k₁₀ ⊢
      generalize hAr : h₉.objs.size + 1 = Ar at hR ⊢
      have X₁₀ := X₉.kept k₁₀
      refine wpAny_List_spliced (arg1 ?_)
      walk_at "go"
      refine ⟨by unfold sizeLine; simp, ?_⟩
      dsimp only
      refine PySem.P.add_list (hR.push _) (PySem.IsL.new _ _) ?_ (by simp; unfold sizeLine; omega)
      dsimp only
      rw [show r.toArray ++ #[Value.ref Tn] = (r ++ [Value.ref Tn]).toArray by simp]
      have hN₁₁ : PySem.IsL ((h₁₀.push { cls := .type "list", data := .seq #[Value.ref Tn] }).push { cls := .type "list", data := .seq (r ++ [Value.ref Tn]).toArray }) (h₁₀.push { cls := .type "list", data := .seq #[Value.ref Tn] }).objs.size (r ++ [Value.ref Tn]).toArray 0 := PySem.IsL.new _ _
      have k₁₁ : ∀ b o, h₁₀.get? b = some o → ((h₁₀.push { cls := .type "list", data := .seq #[Value.ref Tn] }).push { cls := .type "list", data := .seq (r ++ [Value.ref Tn]).toArray }).get? b = some o := fun _ _ e => Heap.get?_push_of_some _ (Heap.get?_push_of_some _ e)
      have hlt₁₁ : h₁₀.objs.size < (h₁₀.push { cls := .type "list", data := .seq #[Value.ref Tn] }).objs.size := by rw [Heap.size_push]; exact Nat.lt_succ_self _
      generalize hH₁₁ : (h₁₀.push { cls := .type "list", data := .seq #[Value.ref Tn] }).push { cls := .type "list", data := .seq (r ++ [Value.ref Tn]).toArray } = h₁₁ at hN₁₁ k₁₁ ⊢
      generalize hDn : (h₁₀.push { cls := .type "list", data := .seq #[Value.ref Tn] }).objs.size = Dn at hN₁₁ hlt₁₁ ⊢
      have hDnb : s.heap.get? Dn = none := fresh_none (Nat.le_of_lt (Nat.lt_trans (Nat.lt_of_le_of_lt X₁₀.F.above X₁₀.F.ns.lt) hlt₁₁))
      have hPlt₁₀ : P < h₁₀.objs.size := by obtain ⟨_, e⟩ := X₁₀.hP; exact Heap.lt_size e
      have X₁₁ : NS s.heap L (L + 1) Dn P (.ref W) h₁₁ _ (r ++ [Value.ref Tn]).toArray _ :=
        ⟨X₁₀.F.keeps k₁₁, X₁₀.cell.keeps k₁₁, ⟨0, hN₁₁⟩, X₁₀.hP.at fun o e => k₁₁ _ o e, Nat.ne_of_gt (Nat.lt_trans hPlt₁₀ hlt₁₁), X₁₀.cb, hDnb, X₁₀.Pb⟩
      clear X₁₀ X₉ X₈ X₇ X₆
      walk_at "st"
      intro h₁₂ X₁₂ k₁₂
      have TK₉₁₂ : TK h₉ h₁₂ := ((TK.all k₁₀).trans (TK.all k₁₁)).trans (TK.ns X₁₁.F.ns k₁₂)
      have TK₁₂ : TK h₆ h₁₂ := TKa₉.trans TK₉₁₂
      have TKa : TK h' h₁₂ := TK₆.trans TK₁₂
      obtain ⟨heM₂, hem₂⟩ := ents_move I.he TKa
      have iN₂ := iN.tk TK₁₂
      have hvN : entOf h₁₂ (.ref Tn) = mkE (entOf h' y0) (entOf h' y1) ((ws.size : Int) + (prs.length : Int)) := by
        rw [entOf_eq iN₂, hpsz]; unfold mkE; rw [hline]
      obtain ⟨g1, g2⟩ := hstep (entOf h₁₂) (.ref Tn) hem₂ hvN
      have g6 : ∀ u ∈ r ++ [Value.ref Tn], u = .ref Tn ∨ u ∈ xs.toList := fun u hu => by
        rcases List.mem_append.mp hu with q | q
        · exact .inr (hr u q)
        · exact .inl (List.mem_singleton.mp q)
      have hcast : (ws.size : Int) + ((prs ++ [(entOf h' y0, entOf h' y1)]).length : Int) = (ws.size : Int) + (prs.length : Int) + 1 := by
        rw [List.length_append]; simp only [List.length_cons, List.length_nil]; omega
      walk_at "go"
      refine ⟨xs.size - 1, by omega, h₁₂, _, Dn, _, _, _, prs ++ [(entOf h' y0, entOf h' y1)], rfl, ⟨X₁₂, ?_, ?_, ?_, ?_, ?_, ?_, ?_, rfl, m2⟩, ?_⟩
      · intro u hu
        rcases g6 u hu with rfl | q
        · exact ⟨Tn, rfl, by rw [entOf_eq iN₂]; exact iN₂⟩
        · exact heM₂ u q
      · rw [hcast]; exact g1
      · rw [List.length_append]; simp; omega
      · simp
      · intro u hu
        rw [List.length_append]
        simp only [List.length_cons, List.length_nil]
        rcases g6 u hu with rfl | q
        · rw [entOf_eq iN₂]; exact ⟨hlok, hlle⟩
        · rw [hem₂ u q]
          exact ⟨(I.htx u q).1, Nat.le_trans (I.htx u q).2 (Bnd_le _)⟩
      · rw [Array.toList_push]
        have hPlt : P < h₇.objs.size := Heap.lt_size hPo
        exact .snoc (I.hpr.at TKa) ⟨h₇.objs.size, a0, a1, rfl, TK₉₁₂ _ _ (k₉ _ _ (Nat.ne_of_gt hPlt) hPr) rfl ⟨_, _, rfl⟩, i0.tk TKa, i1.tk TKa⟩
      · intro ps' last' hg
        rw [hcast] at hg
        have := I.hgr _ _ (g2 ps' last' hg)
        rw [List.append_assoc]; exact this
      · simp; omega
    · rw [if_neg (by simp; omega)]
      have hx1 : xs.size = 1 := by have := I.h1; omega
      walk_at "go"
      refine wpAny_Tuple_spliced (arg2 ?_)
      walk_at "go"
      refine ⟨by unfold sizeLine; simp, ?_⟩
      dsimp only
      obtain ⟨v, rfl⟩ : ∃ v, xs = #[v] := by
        obtain ⟨l⟩ := xs
        match l, hx1 with
        | [v], _ => exact ⟨v, rfl⟩
      obtain ⟨a, rfl, i⟩ := I.he v (by simp)
      have up : ∀ (oo : Obj) (b : Addr) (o : Obj), h'.get? b = some o → (h'.push oo).get? b = some o := fun _ _ _ e => Heap.get?_push_of_some _ e
      refine h _ _ _ prs (entOf h' (.ref a)) (fun b o e => up _ b o (X.F.keep b o e)) ⟨P, D, ps, a, Heap.get?_push_size _ rfl, X.hP.at fun o e => up _ _ o e, I.hpr.at (TK.all (up _)), X.hD.at fun o e => up _ _ o e, i.tk (TK.all (up _))⟩ ?_
      have := I.hgr [] (entOf h' (.ref a)) (by exact .one _ _)
      rw [List.append_nil] at this
      exact this
end
end Mine
end P_Due

/-! Lst0 -/
section P_Lst0
open PySem PySem.W PySem.Calls PyProof.Rows
namespace Mine

section
variable {prog : Program} {w : World} {A : Around} {E : Value → Shared → Prop} {s : Shared}
/-- the frame's names, two cells, one list -/
structure L1 (b : Heap) (L D M : Addr) (cv : Option Value) (h : Heap) (m : Str → Option Value) (ls : Array Value) : Prop where
  F : Fr b L h m
  c1 : h.IsCell (L + 1) (some (.ref M))
  c2 : h.IsCell (L + 1 + 1) cv
  hD : h.PlainList D ls
  Db : b.get? D = none
variable {b h h' : Heap} {L D M : Addr} {cv : Option Value} {m : Str → Option Value} {ls : Array Value}
theorem L1.kept (X : L1 b L D M cv h m ls) (hk : ∀ a o, h.get? a = some o → h'.get? a = some o) : L1 b L D M cv h' m ls :=
  ⟨X.F.keeps hk, X.c1.keeps hk, X.c2.keeps hk, X.hD.at fun o e => hk _ o e, X.Db⟩
theorem L1.turnD {ls' : Array Value} (X : L1 b L D M cv h m ls) (hl : h'.PlainList D ls') (hk : ∀ a o, a ≠ D → h.get? a = some o → h'.get? a = some o) : L1 b L D M cv h' m ls' :=
  ⟨Fr.but X.F X.Db (Ne.symm (list_ns X.hD X.F.ns)) hk, cell_but X.c1 (Ne.symm (list_cell X.hD X.c1)) hk, cell_but X.c2 (Ne.symm (list_cell X.hD X.c2)) hk, hl, X.Db⟩
theorem L1.but {z : Addr} (X : L1 b L D M cv h m ls) (hz : b.get? z = none) (hL : L ≠ z) (h1 : L + 1 ≠ z) (h2 : L + 1 + 1 ≠ z) (hD : D ≠ z) (hk : ∀ a o, a ≠ z → h.get? a = some o → h'.get? a = some o) : L1 b L D M cv h' m ls :=
  ⟨Fr.but X.F hz hL hk, cell_but X.c1 h1 hk, cell_but X.c2 h2 hk, X.hD.at fun o e => hk _ o hD e, X.Db⟩
theorem L1.list {P : Addr} {zs : Array Value} (X : L1 b L D M cv h m ls) (hP : h.PlainList P zs) (hPb : b.get? P = none) (hPD : D ≠ P) (hk : ∀ a o, a ≠ P → h.get? a = some o → h'.get? a = some o) : L1 b L D M cv h' m ls :=
  X.but hPb (Ne.symm (list_ns hP X.F.ns)) (Ne.symm (list_cell hP X.c1)) (Ne.symm (list_cell hP X.c2)) hPD hk
theorem ri_ns {it : Addr} {x y z : Int} (i : IsRangeIter h it x y z) (n : h.Ns L m) : L ≠ it := by
  rintro rfl
  obtain ⟨o', _, _, e', d', _⟩ := n
  have i' : h.get? L = some _ := i
  rw [i'] at e'; cases e'; cases d'
theorem ri_cell {it c : Addr} {x y z : Int} {v : Option Value} (i : IsRangeIter h it x y z) (n : h.IsCell c v) : c ≠ it := by
  rintro rfl
  obtain ⟨o', e', d'⟩ := n
  have i' : h.get? c = some _ := i
  rw [i'] at e'; cases e'; cases d'
theorem ri_list {it l : Addr} {x y z : Int} {xs : Array Value} (i : IsRangeIter h it x y z) (n : h.PlainList l xs) : l ≠ it := by
  rintro rfl
  obtain ⟨o', e'⟩ := n
  have i' : h.get? l = some _ := i
  rw [i'] at e'
  have := congrArg Obj.data (Option.some.inj e')
  cases this
theorem L1.iter {it : Addr} {x y z : Int} (X : L1 b L D M cv h m ls) (i : IsRangeIter h it x y z) (hb : b.get? it = none) (hk : ∀ a o, a ≠ it → h.get? a = some o → h'.get? a = some o) : L1 b L D M cv h' m ls :=
  X.but hb (ri_ns i X.F.ns) (ri_cell i X.c1) (ri_cell i X.c2) (ri_list i X.hD) hk

variable {MM : Model} {name : Str} {scope : Scope} {a : Addr} {cd : Value}
theorem L1.st {x : Str} {v : Value} {Q : Unit → Shared → Prop} (X : L1 b L D M cv s.heap m ls) (h : ∀ h', L1 b L D M cv h' (fun y => if y = x then some v else m y) ls → (∀ z o, z ≠ L → s.heap.get? z = some o → h'.get? z = some o) → Q () { s with heap := h', toks := s.toks + 1 })
    (hk : scope.kind = .function) (hl : (envOfC name scope L a cd).kindOf x = some .local) : wpAny MM A (storeName (envOfC name scope L a cd) x v) Q E s :=
  wpAny_storeName_local hl X.F.ns (fun h' hn hs => h h' ⟨X.F.set hn hs, cell_but X.c1 (cell_ns X.c1 X.F.ns) fun z o hz e => hs.extBut z o hz e, cell_but X.c2 (cell_ns X.c2 X.F.ns) fun z o hz e => hs.extBut z o hz e, X.hD.extBut hs.extBut (list_ns X.hD X.F.ns), X.Db⟩ fun z o hz e => hs.extBut z o hz e)
    (by show (scope.kind == .class || (scope.kind == .module && L != mainGlobals)) = false; rw [hk]; rfl)
theorem L1.ld {x : Str} {pos : Pos} {v : Value} {Q : Value → Shared → Prop} (X : L1 b L D M cv s.heap m ls) (hv : m x = some v) (h : Q v s)
    (hk : scope.kind = .function) (hl : (envOfC name scope L a cd).kindOf x = some .local) (hd : (x == ("__debug__" : Str)) = false) : wpAny MM A (eval (.Name x pos) (envOfC name scope L a cd)) Q E s := ldLoc X.F hv h hk hl hd
theorem L1.stC {x : Str} {v : Value} {Q : Unit → Shared → Prop} (X : L1 b L D M cv s.heap m ls) (h : ∀ h', L1 b L D M (some v) h' m ls → (∀ z o, z ≠ L + 1 + 1 → s.heap.get? z = some o → h'.get? z = some o) → Q () { s with heap := h' })
    (hk : scope.kind = .function) (hl : (envOfC name scope L a cd).kindOf x = some .cell) (hc : (envOfC name scope L a cd).cells.lookup x = some (L + 1 + 1)) : wpAny MM A (storeName (envOfC name scope L a cd) x v) Q E s :=
  wpAny_storeName_cell hk hl hc X.c2 fun h' hv hs => by
    have hk' : ∀ z o, z ≠ L + 1 + 1 → s.heap.get? z = some o → h'.get? z = some o := fun z o hz e => hs.extBut z o hz e
    have hb : b.get? (L + 1 + 1) = none := fresh_none (Nat.le_trans X.F.above (Nat.le_succ_of_le (Nat.le_succ _)))
    exact h h' ⟨Fr.but X.F hb (Ne.symm (cell_ns X.c2 X.F.ns)) hk', cell_but X.c1 (Nat.ne_of_lt (Nat.lt_succ_self _)) hk', hv, X.hD.at fun o e => hk' _ o (list_cell X.hD X.c2) e, X.Db⟩ hk'

theorem small_range2 {a c : Nat} (h : a ≤ c) (h2 : c ≤ 2000) : Builtin.Range.small (a : Int) (c : Int) 1 = true := by
  have z : Builtin.Range.rangeSize (a : Int) (c : Int) 1 = (c : Int) - a := by rw [rangeSize_one]; split <;> omega
  unfold Builtin.Range.small
  rw [z]
  rw [fitsLong_small (i := (a : Int)) (by omega) (by omega), fitsLong_small (i := (c : Int)) (by omega) (by omega), fitsLong_small (i := 1) (by omega) (by omega), fitsLong_small (i := (c : Int) - a) (by omega) (by omega)]
  simp
  exact .inr (fitsLong_small (by omega) (by omega))
theorem iter_range2 {a c : Nat} {t u : Tok} {Q : Value → Shared → Prop} (h0 : a ≤ c) (hn : c ≤ 2000)
    (h : ∀ h' it tk, (∀ b o, s.heap.get? b = some o → h'.get? b = some o) → IsRangeIter h' it (a : Int) ((c - a : Nat) : Int) 1 → s.heap.objs.size < it → it < h'.objs.size → Q (.ref it) { s with heap := h', toks := tk }) :
    wpAny (model prog w) A (call (.type "range") [.int (a : Int) t, .int (c : Int) u]) (fun v s₁ => wpAny (model prog w) A (pyIter v) Q E s₁) E s := by
  refine call_range_2 ?_
  refine wpAny_pyIter_range (IsRange.new _ _ _ _ _ _ _) (small_range2 h0 hn) ?_
  have z : Builtin.Range.rangeSize (a : Int) (c : Int) 1 = ((c - a : Nat) : Int) := by rw [rangeSize_one]; split <;> omega
  rw [z]
  refine h _ _ _ (fun _ _ e => Heap.get?_push_of_some _ (Heap.get?_push_of_some _ e)) (Heap.get?_push_size _ rfl) ?_ ?_
  · rw [Heap.size_push]; exact Nat.lt_succ_self _
  · exact Nat.lt_of_lt_of_le (Nat.lt_succ_self _) (Nat.le_of_eq (Heap.size_push _ _).symm)

theorem min_spec {l : Addr} {vs : Array Value} {ns : List Int} {Q : Value → Shared → Prop} (hh : A.handled = none) (hl : s.heap.IsList l vs) (hi : IntsAre vs.toList ns) (hne : 0 < ns.length)
    (h : ∀ h' tk M t, M ∈ ns → (∀ a ∈ ns, M ≤ a) → (∀ b o, s.heap.get? b = some o → h'.get? b = some o) → Q (.int M t) { s with heap := h', toks := tk }) : wpAny (model prog w) A (call (.builtin "min") [.ref l]) Q E s := by
  have hall : AllInts vs := by have := hi.allInts; simpa using this
  obtain ⟨xs, rfl⟩ := hall.items
  have hns : ns = xs.toList.map (·.1) := by rw [← nums_intItems]; exact hi.numsOf.symm
  have hsz : 0 < xs.size := by rw [hns] at hne; simpa using hne
  refine min_intList hh hl hsz fun v h' tk hv hk => ?_
  obtain ⟨t, rfl⟩ := intItems_at hv
  obtain ⟨h1, h2⟩ := argBest_lt (numAt xs) (xs.size - 1)
  refine h h' tk _ t ?_ (fun a ha => ?_) hk
  · rw [hns, numAt_eq, List.getD_eq_getElem?_getD, List.getElem?_eq_getElem (by rw [List.length_map, Array.length_toList]; omega)]
    exact List.getElem_mem _
  · rw [hns] at ha
    obtain ⟨j, hj, rfl⟩ := List.mem_iff_getElem.mp ha
    rw [List.length_map, Array.length_toList] at hj
    have := h2 j (by omega)
    rw [numAt_eq xs j, List.getD_eq_getElem?_getD, List.getElem?_eq_getElem (by rw [List.length_map, Array.length_toList]; exact hj)] at this
    exact this
theorem bitAndN (p c : Nat) : Builtin.bitAnd (p : Int) (c : Int) = ((p &&& c : Nat) : Int) := by
  unfold Builtin.bitAnd
  rw [show decide (0 ≤ (p : Int)) = true by simp, show decide (0 ≤ (c : Int)) = true by simp]
  simp
end

/-- the ways to come to a choice of the words -/
def ways1 (ms : List Int) (S : Nat) : List Int := ((List.range ms.length).filter fun k => decide (S = 2 ^ k)).map fun k => ms.getD k 0
def ways2 (Lf : Nat → Int) (S p : Nat) : List Int := ((List.range' 1 (p - 1)).filter fun P => decide (P &&& S = P)).map fun P => 3 * (Lf P + Lf (S - P)) + 2
def MinOf (v : Int) (l : List Int) : Prop := v ∈ l ∧ ∀ x ∈ l, v ≤ x
/-- the fewest for each choice, below C -/
def DP (ms : List Int) (Lf : Nat → Int) (C : Nat) : Prop := ∀ S, 1 ≤ S → S < C → MinOf (Lf S) (ways1 ms S ++ ways2 Lf S S)
theorem ways2_congr {Lf Lg : Nat → Int} {S p : Nat} (h : ∀ i, i < S → Lf i = Lg i) (hp : p ≤ S) : ways2 Lf S p = ways2 Lg S p := by
  unfold ways2
  refine List.map_congr_left fun P hP => ?_
  have := List.mem_range'_1.mp (List.mem_filter.mp hP).1
  rw [h P (by omega), h (S - P) (by omega)]
theorem ways2_succ (Lf : Nat → Int) (S p : Nat) (hp : 1 ≤ p) : ways2 Lf S (p + 1) = ways2 Lf S p ++ (if p &&& S = p then [3 * (Lf p + Lf (S - p)) + 2] else []) := by
  unfold ways2
  have e : List.range' 1 (p + 1 - 1) = List.range' 1 (p - 1) ++ [p] := by
    obtain ⟨q, rfl⟩ : ∃ q, p = q + 1 := ⟨p - 1, by omega⟩
    rw [show q + 1 + 1 - 1 = q + 1 by omega, show q + 1 - 1 = q by omega, List.range'_concat]
    simp [Nat.add_comm]
  rw [e, List.filter_append, List.map_append]
  by_cases h : p &&& S = p
  · simp [h]
  · simp [h]
def reach (n S : Nat) : Bool := (List.range n).any (fun k => decide (S = 2 ^ k)) || (List.range' 1 (S - 1)).any (fun P => decide (P &&& S = P))
theorem reach3 : ∀ S, S < 2 ^ 3 → 1 ≤ S → reach 3 S = true := by decide
theorem reach4 : ∀ S, S < 2 ^ 4 → 1 ≤ S → reach 4 S = true := by decide
theorem reach5 : ∀ S, S < 2 ^ 5 → 1 ≤ S → reach 5 S = true := by decide
theorem ways_ne {ms : List Int} {Lf : Nat → Int} {S : Nat} (h3 : 3 ≤ ms.length) (h5 : ms.length ≤ 5) (h1 : 1 ≤ S) (h2 : S < 2 ^ ms.length) : 0 < (ways1 ms S ++ ways2 Lf S S).length := by
  have hr : reach ms.length S = true := by
    have : ms.length = 3 ∨ ms.length = 4 ∨ ms.length = 5 := by omega
    rcases this with e | e | e <;> rw [e] at h2 ⊢
    · exact reach3 S h2 h1
    · exact reach4 S h2 h1
    · exact reach5 S h2 h1
  unfold reach at hr
  rw [List.length_append]
  rcases Bool.or_eq_true _ _ ▸ hr with q | q
  · obtain ⟨k, hk, e⟩ := List.any_eq_true.mp q
    have : 0 < (ways1 ms S).length := by
      unfold ways1
      rw [List.length_map]
      exact List.length_pos_of_mem (List.mem_filter.mpr ⟨hk, e⟩)
    omega
  · obtain ⟨k, hk, e⟩ := List.any_eq_true.mp q
    have : 0 < (ways2 Lf S S).length := by
      unfold ways2
      rw [List.length_map]
      exact List.length_pos_of_mem (List.mem_filter.mpr ⟨hk, e⟩)
    omega
end Mine
end P_Lst0

/-! Lst -/
section P_Lst
open PySem PySem.W PySem.Calls PyProof.Rows
namespace Mine
local macro_rules | `(tactic| walk_at "ld") => `(tactic| (((with_reducible refine' L1.ld (by assumption) ?mv ?_ ?mk ?ml ?md)); (case mv => first | exact rfl | assumption); (case mk => exact rfl); (case ml => exact rfl); (case md => decide)))
local macro_rules | `(tactic| walk_at "st") => `(tactic| ((with_reducible refine L1.st (by assumption) ?_ ?mk ?ml); (case mk => exact rfl); (case ml => exact rfl)))
local macro_rules | `(tactic| walk_at "1") => `(tactic| first
  | with_reducible refine wpAny_execs_cons ?_
  | with_reducible refine wpAny_execs_nil ?_
  | with_reducible refine wpAny_Return_some ?_
  | with_reducible refine wpAny_If ?_
  | with_reducible refine wpAny_BinOp ?_
  | (with_reducible refine Constant_str ?_; try dsimp only)
  | (with_reducible refine wpAny_Constant_int ?_; try dsimp only)
  | with_reducible refine Subscript_ ?_
  | with_reducible refine isTrue_not ?_
  | with_reducible refine isTrue_and ?_
  | with_reducible refine isTrue_and_nil ?_
  | ((with_reducible refine wpAny_isTrue_Compare1 ?_ ?mh); (case mh => exact rfl))
  | ((with_reducible refine wpAny_Compare1 ?_ ?mh); (case mh => exact rfl))
  | ((with_reducible refine wpAny_Assign_Name ?_ ?mh); (case mh => exact rfl))
  | ((with_reducible refine wpAny_Assign_Subscript ?_ ?mh); (case mh => exact rfl))
  | walk_at "ld"
  | ((with_reducible refine isTrue_plain ?_ ?mh); (case mh => exact rfl))
  | ((with_reducible refine mcallN ?_ ?mh ?mi); (case mh => exact rfl); (case mi => exact rfl))
  | ((with_reducible refine mcallC ?_ ?mh ?mi); (case mh => exact rfl); (case mi => exact rfl))
  | ((with_reducible refine mcallF ?_ ?mh ?mi); (case mh => exact rfl); (case mi => exact rfl))
  | with_reducible refine wpAny_truthy_bool ?_
  | (with_reducible refine PyProof.Rows.add_int ?_; try dsimp only)
  | (with_reducible refine PyProof.Rows.sub_int ?_; try dsimp only)
  | with_reducible refine PyProof.Rows.gt_int ?_
  | with_reducible refine PyProof.Rows.lt_int ?_
  | with_reducible refine PyProof.Rows.eq_int ?_
  | with_reducible refine PyProof.Rows.ne_int ?_
  | with_reducible refine isTrue_and ?_
  | with_reducible refine isTrue_and_nil ?_
  | ((with_reducible refine wpAny_Expr_any ?_ ?mh ?mi); (case mh => exact rfl); (case mi => exact rfl))
  | (with_reducible refine PyProof.Rows.mul_int ?_ (IntMulOk.of_left (by decide)); try dsimp only)
  | with_reducible refine wpAny_Break ?_
  | with_reducible refine wpAny_Continue ?_)
local macro_rules | `(tactic| walk_at "go") => `(tactic| repeat walk_at "1")

section
variable {prog : Program} {w : World} {A : Around} {E : Value → Shared → Prop} {s : Shared} {mg mb : Str → Option Value} {g : Heap}

theorem paired_ints {ms : List Int} : ∀ {l zs : List Value}, Paired (fun v y => ∃ t, y = Value.int (ms.getD (intAt v).toNat 0) t) l zs → IntsAre zs (l.map fun v => ms.getD (intAt v).toNat 0)
  | _, _, .nil => .nil
  | _, _, .cons ⟨t, e⟩ r => by subst e; exact .cons _ t (paired_ints r)
theorem comp_ways {ms : List Int} {C : Nat} {us zs : List Value} (hul : us.length = ms.length) (hup : ∀ j v, us[j]? = some v → j < ms.length ∧ ∃ t, v = Value.int (0 + (j : Int) * 1) t)
    (hF : Paired (fun v y => ∃ t, y = Value.int (ms.getD (intAt v).toNat 0) t) (us.filter fun v => decide (C = 2 ^ (intAt v).toNat)) zs) : IntsAre zs (ways1 ms C) := by
  have h1 := paired_ints hF
  have h2 : us.map (fun v => (intAt v).toNat) = List.range ms.length := by
    refine List.ext_getElem (by simp [hul]) fun j hj hj' => ?_
    rw [List.length_map] at hj
    obtain ⟨_, t, e⟩ := hup j us[j] (List.getElem?_eq_getElem hj)
    rw [List.getElem_map, e, List.getElem_range]
    show (0 + (j : Int) * 1).toNat = j
    omega
  unfold ways1
  rw [← h2, List.filter_map, List.map_map]
  exact h1

theorem least_spec {M : Addr} {vs : Array Value} {ms : List Int} {Q : Value → Shared → Prop} (G : Gd w mg mb s.heap) (hh : A.handled = none)
    (hroom : A.depth + 10 < recursionLimit) (hM : s.heap.IsList M vs) (hi : IntsAre vs.toList ms) (h3 : 3 ≤ ms.length) (h5 : ms.length ≤ 5)
    (h : ∀ h' tk t Lf, (∀ b o, s.heap.get? b = some o → h'.get? b = some o) → DP ms Lf (2 ^ ms.length) → Q (.int (Lf (2 ^ ms.length - 1)) t) { s with heap := h', toks := tk }) :
    wpAny (model prog w) A (call (.ref 127) [.ref M]) Q E s := by
  have hlen : vs.size = ms.length := by have := hi.length; simpa using this
  have hpow : 2 ^ ms.length ≤ 32 ∧ 8 ≤ 2 ^ ms.length := by
    have : ms.length = 3 ∨ ms.length = 4 ∨ ms.length = 5 := by omega
    rcases this with e | e | e <;> rw [e] <;> decide
  refine' callC (a := 127) (binds := [(Str.ofString "marks", .ref M)]) G ?ho ?hcd (by omega) ?hb ?hk ?c1 ?c2 ?c3 ?_
  case ho => exact rfl
  case hcd => kernel_rfl
  case hb => exact rfl
  case hk => intro x hx; rcases List.mem_cons.mp hx with rfl | hx; exact .inr ⟨rfl, rfl⟩; cases hx
  case c1 => exact rfl
  case c2 => exact rfl
  case c3 => exact rfl
  intro h₁ L tk hL F X₀
  have c1 : h₁.IsCell (L + 1) (some (.ref M)) := X₀.cell (Str.ofString "marks") (L + 1) rfl
  have c2 : h₁.IsCell (L + 1 + 1) none := X₀.cell (Str.ofString "choice") (L + 1 + 1) rfl
  walk_at "go"
  refine wpAny_List_spliced (arg1 ?_)
  walk_at "go"
  refine ⟨by unfold sizeLine; simp, ?_⟩
  try dsimp only
  have hDfree : s.heap.get? h₁.objs.size = none := fresh_none (Nat.le_of_lt (Nat.lt_of_le_of_lt F.above F.ns.lt))
  have up₁ : ∀ (oo : Obj) (b : Addr) (o : Obj), h₁.get? b = some o → (h₁.push oo).get? b = some o := fun _ _ _ e => Heap.get?_push_of_some _ e
  have X₁ : L1 s.heap L h₁.objs.size M none (h₁.push { cls := .type "list", data := .seq [Value.int 0 tk].toArray }) _ #[.int 0 tk] :=
    ⟨F.keeps (up₁ _), c1.keeps (up₁ _), c2.keeps (up₁ _), ⟨_, Heap.get?_push_size _ rfl⟩, hDfree⟩
  generalize hD : h₁.objs.size = D at X₁ hDfree ⊢
  clear c1 c2
  walk_at "st"
  intro h₂ X₂ k₂
  clear X₁
  dsimp only
  walk_at "1"
  refine wpAny_For ?_
  refine ctyp (mb := mb) (G.g.keeps X₂.F.keep) (G.b.keeps X₂.F.keep) G.range (arg2 ?_)
  walk_at "go"
  refine cblt (mb := mb) (G.g.keeps X₂.F.keep) (G.b.keeps X₂.F.keep) G.len (arg1 ?_)
  refine ldCell (c := L + 1) X₂.c1 ?_ rfl rfl rfl (by decide)
  refine call_len_list (hM.at fun o e => X₂.F.keep _ o e) (by omega) ?_
  dsimp only
  refine pow_int_small (by omega) (by omega) (by decide) ?_
  rw [hlen, show (2 : Int) ^ ((ms.length : Int)).toNat = ((2 ^ ms.length : Nat) : Int) by rw [Int.toNat_natCast]; simp]
  generalize hN : 2 ^ ms.length = N at *
  refine iter_range2 (a := 1) (c := N) (by omega) (by omega) ?_
  intro h₃ it tk₃ k₃ I₃ lo₃ hi₃
  have X₃ := X₂.kept k₃
  have hitb : s.heap.get? it = none := fresh_none (Nat.le_of_lt (Nat.lt_trans (Nat.lt_of_le_of_lt X₂.F.above X₂.F.ns.lt) lo₃))
  obtain ⟨m₃, X₃', e31⟩ : ∃ m₃, L1 s.heap L D M none h₃ m₃ #[.int 0 tk] ∧ m₃ (Str.ofString "least") = some (.ref D) := ⟨_, X₃, rfl⟩
  clear X₃ X₂ X₀ F
  refine codeAny_forLoop_any (fun k s' => ∃ (h' : Heap) (tk : Nat) (cv : Option Value) (m : Str → Option Value) (ls : Array Value) (C : Nat) (Lf : Nat → Int), s' = { s with heap := h', toks := tk } ∧ L1 s.heap L D M cv h' m ls ∧
      IsRangeIter h' it (C : Int) k 1 ∧ C + k = N ∧ 1 ≤ C ∧ m (Str.ofString "least") = some (.ref D) ∧ IntsAre ls.toList ((List.range C).map Lf) ∧ DP ms Lf C) ?turn (N - 1) ?start
  case start => exact ⟨h₃, _, none, m₃, _, 1, fun _ => 0, rfl, X₃', I₃, by omega, Nat.le_refl _, e31, .cons _ _ .nil, fun S h1 h2 => absurd h2 (by omega)⟩
  rintro k s' ⟨h', tk', cv, m, ls, C, Lf, rfl, X, I, hC, hC1, e1, hls, hdp⟩
  have hlsz : ls.size = C := by have := hls.length; simpa using this
  cases k with
  | zero =>
    refine wpAny_pyNext_range_end hh I (by omega) ?_
    intro h₄ x₄
    have X₄ := X.iter I hitb x₄
    walk_at "go"
    refine UnaryOp_ ?_
    walk_at "go"
    refine PyProof.Rows.neg_int ?_
    have hCN : C = N := by omega
    subst hCN
    obtain ⟨n, t, ev, en⟩ := hls.at (C - 1) (ls.getD (C - 1) .none) (by rw [Array.getElem?_toList]; exact getD_some (by omega))
    refine tail_any X₄.hD.isList.typeIs slot_list_getitem.lookup (wpAny_getItem_list_neg X₄.hD.isList (by decide) (by omega) (by decide) (x := .int n t) (by rw [← ev, show (-1 + (ls.size : Int)).toNat = C - 1 by omega]; exact getD_some (by omega)) ?_) rfl
    rw [List.getElem?_map, List.getElem?_range (by omega)] at en
    have en' : Lf (C - 1) = n := Option.some.inj en
    subst en'
    exact h h₄ _ t Lf X₄.F.keep hdp
  | succ k =>
    refine wpAny_pyNext_range_item I (by omega) ?_
    intro h₄ I₄ s₄
    have X₄ := X.iter I hitb fun a o ha e => s₄.extBut a o ha e
    dsimp only
    refine wpAny_pure ?_
    refine wpAny_assign_Name ?_
    refine L1.stC X₄ ?_ rfl rfl rfl
    intro h₅ X₅ k₅
    have I₅ : IsRangeIter h₅ it _ _ 1 := k₅ it _ (Ne.symm (ri_cell I₄ X₄.c2)) I₄
    clear X X₄ I I₄
    walk_at "1"
    refine wpAny_Assign_ListComp_free (fun v => decide (C = 2 ^ (intAt v).toNat)) (fun v y => ∃ t, y = .int (ms.getD (intAt v).toNat 0) t) rfl (by rfl) (by decide) rfl (by decide) rfl rfl rfl ?_
    refine ctyp (mb := mb) (G.g.keeps X₅.F.keep) (G.b.keeps X₅.F.keep) G.range (arg1 ?_)
    refine cblt (mb := mb) (G.g.keeps X₅.F.keep) (G.b.keeps X₅.F.keep) G.len (arg1 ?_)
    refine ldCell (c := L + 1) X₅.c1 ?_ rfl rfl rfl (by decide)
    refine call_len_list (hM.at fun o e => X₅.F.keep _ o e) (by omega) ?_
    dsimp only
    rw [hlen]
    refine iter_range (by omega) ?_
    intro h₆ it₂ tk₆ k₆ I₆ lo₆ hi₆
    dsimp only at k₆ I₆ lo₆
    have X₆ := X₅.kept k₆
    have I₅' : IsRangeIter h₆ it _ _ 1 := k₆ it _ I₅
    have hit2b : s.heap.get? it₂ = none := fresh_none (Nat.le_of_lt (Nat.lt_trans (Nat.lt_of_le_of_lt X₅.F.above X₅.F.ns.lt) lo₆))
    have hii : it ≠ it₂ := Nat.ne_of_lt (Nat.lt_trans (Heap.lt_size I₅) lo₆)
    have hin : ∀ {z : Addr}, z ≠ it₂ → z ∉ [it₂] := fun hz hm => hz (List.mem_singleton.mp hm)
    refine ⟨it₂, [it₂], [it₂], ms.length, _, _, _, rfl, (Walks.range (by exact hh) it₂ 0 1 ms.length).bound, (by unfold sizeLine; omega), ?st, ?hfp, ?hLw, X₆.F.ns, ⟨?t, ?e⟩, ?_⟩
    case st =>
      show IsRangeIter h₆ it₂ (0 + ((0 : Nat) : Int) * 1) ((ms.length : Int) - ((0 : Nat) : Int)) 1
      rw [show (0 + ((0 : Nat) : Int) * 1) = 0 by omega, show ((ms.length : Int) - ((0 : Nat) : Int)) = ms.length by omega]
      exact I₆
    case hfp =>
      intro b hb
      rcases List.mem_cons.mp hb with rfl | hb
      · exact hi₆
      · cases hb
    case hLw => exact hin (ri_ns I₆ X₆.F.ns)
    case t =>
      rintro C' i v s₃ m₃ E' hge ⟨hilt, tv, rfl⟩ hn hm hk htk
      have cc2 : s₃.heap.IsCell (L + 1 + 1) (some (.int (C : Int) tk')) := let ⟨o, e, d⟩ := X₆.c2; ⟨o, hk _ o (hin (ri_cell I₆ X₆.c2)) e, d⟩
      refine wpAny_tests_one ?_
      walk_at "1"
      refine ldCell (c := L + 1 + 1) cc2 ?_ rfl rfl rfl (by decide)
      walk_at "go"
      refine wpAny_Name (wpAny_loadName_local rfl rfl hn hm ?_) (by decide)
      refine pow_int_small (by omega) (by omega) (by decide) ?_
      refine PyProof.Rows.eq_int ?_
      refine wpAny_truthy_bool ?_
      refine ⟨?_, s₃.heap, _, rfl, fun _ _ e => e⟩
      show ((C : Int) == (2 : Int) ^ (0 + (i : Int) * 1).toNat) = decide (C = 2 ^ (0 + (i : Int) * 1).toNat)
      rw [show (2 : Int) ^ (0 + (i : Int) * 1).toNat = ((2 ^ (0 + (i : Int) * 1).toNat : Nat) : Int) by simp, Bool.eq_iff_iff]
      simp only [beq_iff_eq, decide_eq_true_eq]
      omega
    case e =>
      rintro C' i v s₃ m₃ E' hge ⟨hilt, tv, rfl⟩ hpv hn hm hk htk
      have cc1 : s₃.heap.IsCell (L + 1) (some (.ref M)) := let ⟨o, e, d⟩ := X₆.c1; ⟨o, hk _ o (hin (ri_cell I₆ X₆.c1)) e, d⟩
      have hM₃ : s₃.heap.IsList M vs := hM.at fun o e => hk _ o (hin (fun q => by rw [q, hit2b] at e; cases e)) (X₆.F.keep _ o e)
      refine Subscript_ ?_
      refine ldCell (c := L + 1) cc1 ?_ rfl rfl rfl (by decide)
      refine wpAny_Name (wpAny_loadName_local rfl rfl hn hm ?_) (by decide)
      obtain ⟨tt, et⟩ := hi.int_at i (vs.getD i .none) (by rw [Array.getElem?_toList]; exact getD_some (by omega))
      refine item_I hM₃ (by omega) (by omega) (x := .int (ms.getD i 0) tt) ?_ ?_ rfl
      · rw [← et, show (0 + (i : Int) * 1).toNat = i by omega]; exact getD_some (by omega)
      · refine ⟨⟨tt, ?_⟩, s₃.heap, _, rfl, fun _ _ e => e⟩
        show Value.int (ms.getD i 0) tt = Value.int (ms.getD (0 + (i : Int) * 1).toNat 0) tt
        rw [show (0 + (i : Int) * 1).toNat = i by omega]
    intro P h₇ tk₇ zs us hPf _ plP hul hup hF ns₇ hk₇
    have hways := comp_ways hul hup hF
    dsimp only at hk₇ hPf
    have kL : ∀ b o, b ≠ L → b ≠ it₂ → h₆.get? b = some o → h₇.get? b = some o := fun b o h1 h2 e => hk₇ b o h1 (hin h2) e
    have hPL := list_ns plP ns₇
    have hPb : s.heap.get? P = none := by
      cases e : s.heap.get? P with
      | none => rfl
      | some o => have := X₆.F.keep P o e; rw [hPf] at this; cases this
    have hLb : s.heap.get? L = none := fresh_none X₆.F.above
    obtain ⟨m₇, X₇, e71, e72⟩ : ∃ m₇, L1 s.heap L D M (some (.int (C : Int) tk')) h₇ m₇ ls ∧ m₇ (Str.ofString "least") = some (.ref D) ∧ m₇ (Str.ofString "ways") = some (.ref P) := by
      refine ⟨_, ⟨⟨ns₇, fun b o e => kL b o (fun q => by rw [q, hLb] at e; cases e) (fun q => by rw [q, hit2b] at e; cases e) (X₆.F.keep b o e), X₆.F.above⟩, ?_, ?_, ?_, X₆.Db⟩, e1, rfl⟩
      · obtain ⟨o, e, d⟩ := X₆.c1; exact ⟨o, kL _ o (cell_ns X₆.c1 X₆.F.ns) (ri_cell I₆ X₆.c1) e, d⟩
      · obtain ⟨o, e, d⟩ := X₆.c2; exact ⟨o, kL _ o (cell_ns X₆.c2 X₆.F.ns) (ri_cell I₆ X₆.c2) e, d⟩
      · exact X₆.hD.at fun o e => kL _ o (list_ns X₆.hD X₆.F.ns) (ri_list I₆ X₆.hD) e
    have I₇ : IsRangeIter h₇ it _ _ 1 := kL it _ (Ne.symm (ri_ns I₅' X₆.F.ns)) hii I₅'
    have hDP : D ≠ P := fun q => by obtain ⟨n, e⟩ := X₆.hD; rw [q, hPf] at e; cases e
    clear hk₇ ns₇ hF hup hul I₅ I₅' k₅ k₆ X₅ X₆ kL
    dsimp only
    walk_at "1"
    refine wpAny_For ?_
    refine ctyp (mb := mb) (G.g.keeps X₇.F.keep) (G.b.keeps X₇.F.keep) G.range (arg2 ?_)
    walk_at "go"
    refine ldCell (c := L + 1 + 1) X₇.c2 ?_ rfl rfl rfl (by decide)
    refine iter_range2 (a := 1) (c := C) (by omega) (by omega) ?_
    intro h₈ it₃ tk₈ k₈ I₈ lo₈ hi₈
    have X₈ := X₇.kept k₈
    have plP₈ : h₈.PlainList P zs := plP.at fun o e => k₈ _ o e
    have hit3b : s.heap.get? it₃ = none := fresh_none (Nat.le_of_lt (Nat.lt_trans (Nat.lt_of_le_of_lt X₇.F.above X₇.F.ns.lt) lo₈))
    have hi13 : it ≠ it₃ := Nat.ne_of_lt (Nat.lt_trans (Heap.lt_size I₇) lo₈)
    have I₇' : IsRangeIter h₈ it _ _ 1 := k₈ it _ I₇
    clear X₇ plP I₇
    refine codeAny_forLoop_any (fun j s' => ∃ (h' : Heap) (tk : Nat) (m : Str → Option Value) (zs : Array Value) (p : Nat), s' = { s with heap := h', toks := tk } ∧ L1 s.heap L D M (some (.int (C : Int) tk')) h' m ls ∧
        h'.PlainList P zs ∧ IsRangeIter h' it ((C : Int) + 1) (((k + 1 : Nat) : Int) - 1) 1 ∧ IsRangeIter h' it₃ (p : Int) j 1 ∧ p + j = C ∧ 1 ≤ p ∧ m (Str.ofString "least") = some (.ref D) ∧ m (Str.ofString "ways") = some (.ref P) ∧
        IntsAre zs.toList (ways1 ms C ++ ways2 Lf C p)) ?turn2 (C - 1) ?start2
    case start2 => exact ⟨h₈, _, m₇, zs, 1, rfl, X₈, plP₈, I₇', I₈, by omega, Nat.le_refl _, e71, e72, by unfold ways2; simpa using hways⟩
    clear X₈ plP₈ I₇' I₈ e71 e72 hways k₈
    rintro j s' ⟨h', tk₉, m, zs, p, rfl, X, plP, I, I3, hpj, hp1, e1, e2, hzs⟩
    cases j with
    | zero =>
      refine wpAny_pyNext_range_end hh I3 (by omega) ?_
      intro h₉ x₉
      have X₉ := X.iter I3 hit3b x₉
      have plP₉ : h₉.PlainList P zs := plP.at fun o e => x₉ _ o (ri_list I3 plP) e
      have I₉ : IsRangeIter h₉ it _ _ 1 := x₉ it _ hi13 I
      clear X plP I
      have hpC : p = C := by omega
      subst hpC
      walk_at "go"
      obtain ⟨nd, hDo⟩ := X₉.hD
      refine getMethod_list_append hDo rfl rfl ?_
      refine callWith_method1 (arg1 ?_)
      refine cblt (mb := mb) (G.g.keeps X₉.F.keep) (G.b.keeps X₉.F.keep) G.min (arg1 ?_)
      walk_at "go"
      refine min_spec (by exact hh) plP₉.isList hzs (ways_ne h3 h5 (by omega) (by omega)) ?_
      intro h₁₀ tk₁₀ v t hv1 hv2 k₁₀
      have X₁₀ := X₉.kept k₁₀
      have I₁₀ : IsRangeIter h₁₀ it _ _ 1 := k₁₀ it _ I₉
      refine wpAny_list_append_plain X₁₀.hD ?_ (by unfold sizeLine; omega)
      intro h₁₁ hD₁₁ s₁₁
      have X₁₁ := X₁₀.turnD hD₁₁ fun a o ha e => s₁₁.extBut a o ha e
      have I₁₁ : IsRangeIter h₁₁ it _ _ 1 := s₁₁.extBut it _ (Ne.symm (ri_list I₁₀ X₁₀.hD)) I₁₀
      walk_at "go"
      have hag : ∀ i, i < p → (fun S => if S = p then v else Lf S) i = Lf i := fun i hi' => by
        show (if i = p then v else Lf i) = Lf i
        rw [if_neg (by omega)]
      refine ⟨k, by omega, h₁₁, _, _, m, _, p + 1, fun S => if S = p then v else Lf S, rfl, X₁₁, ?_, by omega, by omega, e1, ?_, ?_⟩
      · rw [show (((k + 1 : Nat) : Int) - 1) = (k : Int) by omega] at I₁₁
        exact I₁₁
      · rw [Array.toList_push, List.range_succ, List.map_append]
        refine IntsAre.append ?_ ?_
        · rw [List.map_congr_left fun i hi' => hag i (List.mem_range.mp hi')]
          exact hls
        · show IntsAre [Value.int v t] [if p = p then v else Lf p]
          rw [if_pos rfl]
          exact .cons _ _ .nil
      · intro S hS1 hS2
        by_cases hS : S = p
        · subst hS
          show MinOf (if S = S then v else Lf S) _
          rw [if_pos rfl, ways2_congr hag (Nat.le_refl _)]
          exact ⟨hv1, hv2⟩
        · have hlt : S < p := by omega
          rw [hag S hlt, ways2_congr (fun i hi' => hag i (by omega)) (Nat.le_refl _)]
          exact hdp S hS1 hlt
    | succ j =>
      refine wpAny_pyNext_range_item I3 (by omega) ?_
      intro h₉ J₉ s₉
      have k₉ : ∀ a o, a ≠ it₃ → h'.get? a = some o → h₉.get? a = some o := fun a o ha e => s₉.extBut a o ha e
      have X₉ := X.iter I3 hit3b k₉
      have plP₉ : h₉.PlainList P zs := plP.at fun o e => k₉ _ o (ri_list I3 plP) e
      have I₉ : IsRangeIter h₉ it _ _ 1 := k₉ it _ hi13 I
      clear X plP I I3
      dsimp only
      refine wpAny_pure ?_
      refine wpAny_assign_Name ?_
      walk_at "st"
      intro h₁₀ X₁₀ k₁₀
      have plP₁₀ : h₁₀.PlainList P zs := plP₉.at fun o e => k₁₀ _ o (list_ns plP₉ X₉.F.ns) e
      have I₁₀ : IsRangeIter h₁₀ it _ _ 1 := k₁₀ it _ (Ne.symm (ri_ns I₉ X₉.F.ns)) I₉
      have J₁₀ : IsRangeIter h₁₀ it₃ _ _ 1 := k₁₀ it₃ _ (Ne.symm (ri_ns J₉ X₉.F.ns)) J₉
      clear X₉ plP₉ I₉ J₉
      walk_at "go"
      refine ldCell (c := L + 1 + 1) X₁₀.c2 ?_ rfl rfl rfl (by decide)
      refine PyProof.Rows.and_int ?_
      rw [bitAndN]
      dsimp only
      walk_at "go"
      obtain ⟨m₁₀, X₁₁, f1, f2, f3⟩ : ∃ m₁₀, L1 s.heap L D M (some (.int (C : Int) tk')) h₁₀ m₁₀ ls ∧ m₁₀ (Str.ofString "least") = some (.ref D) ∧ m₁₀ (Str.ofString "ways") = some (.ref P) ∧ m₁₀ (Str.ofString "part") = some (.int (p : Int) tk₉) := ⟨_, X₁₀, e1, e2, rfl⟩
      clear X₁₀
      refine ite_join (mid := fun f s' => f = .next ∧ ∃ (h' : Heap) (tk : Nat) (zs' : Array Value), s' = { s with heap := h', toks := tk } ∧ L1 s.heap L D M (some (.int (C : Int) tk')) h' m₁₀ ls ∧ h'.PlainList P zs' ∧
        IsRangeIter h' it ((C : Int) + 1) (((k + 1 : Nat) : Int) - 1) 1 ∧ IsRangeIter h' it₃ ((p : Int) + 1) (((j + 1 : Nat) : Int) - 1) 1 ∧ IntsAre zs'.toList (ways1 ms C ++ ways2 Lf C (p + 1))) ?_ ?_ ?_
      · intro hc
        have hc' : p &&& C = p := by have := beq_iff_eq.mp hc; omega
        walk_at "go"
        obtain ⟨np, hPo⟩ := plP₁₀
        refine getMethod_list_append hPo rfl rfl ?_
        refine callWith_method1 (arg1 ?_)
        walk_at "go"
        have hat : ∀ i, i < C → ∃ t, ls.getD i .none = .int (Lf i) t := fun i hi' => by
          obtain ⟨n, t, ev, en⟩ := hls.at i (ls.getD i .none) (by rw [Array.getElem?_toList]; exact getD_some (by omega))
          rw [List.getElem?_map, List.getElem?_range hi'] at en
          have en' : Lf i = n := Option.some.inj en
          exact ⟨t, by rw [en', ← ev]⟩
        obtain ⟨t1, et1⟩ := hat p (by omega)
        obtain ⟨t2, et2⟩ := hat (C - p) (by omega)
        refine item_n X₁₁.hD (by omega) (by omega) (x := .int (Lf p) t1) (by rw [← et1]; exact getD_some (i := p) (by omega)) ?_
        walk_at "go"
        refine ldCell (c := L + 1 + 1) X₁₁.c2 ?_ rfl rfl rfl (by decide)
        walk_at "go"
        rw [show (C : Int) - (p : Int) = ((C - p : Nat) : Int) by omega]
        refine item_b X₁₁.hD (by omega) (by omega) (x := .int (Lf (C - p)) t2) (by rw [← et2]; exact getD_some (i := C - p) (by omega)) ?_
        walk_at "go"
        refine wpAny_list_append_plain ⟨np, hPo⟩ ?_ ?_
        · intro h₁₂ hP₁₂ s₁₂
          have k₁₂ : ∀ a o, a ≠ P → h₁₀.get? a = some o → h₁₂.get? a = some o := fun a o ha e => s₁₂.extBut a o ha e
          have X₁₂ := X₁₁.list ⟨np, hPo⟩ hPb hDP k₁₂
          walk_at "go"
          refine ⟨rfl, h₁₂, _, _, rfl, X₁₂, hP₁₂, k₁₂ it _ (Ne.symm (ri_list I₁₀ ⟨np, hPo⟩)) I₁₀, k₁₂ it₃ _ (Ne.symm (ri_list J₁₀ ⟨np, hPo⟩)) J₁₀, ?_⟩
          rw [ways2_succ _ _ _ hp1, if_pos hc', Array.toList_push, ← List.append_assoc]
          exact hzs.append (.cons _ _ .nil)
        · have hl := hzs.length
          rw [Array.length_toList] at hl
          have hb : (ways1 ms C ++ ways2 Lf C p).length ≤ ms.length + (p - 1) := by
            rw [List.length_append]
            unfold ways1 ways2
            rw [List.length_map, List.length_map]
            have q1 := List.length_filter_le (fun k => decide (C = 2 ^ k)) (List.range ms.length)
            have q2 := List.length_filter_le (fun P => decide (P &&& C = P)) (List.range' 1 (p - 1))
            rw [List.length_range] at q1
            rw [List.length_range'] at q2
            omega
          unfold sizeLine
          omega
      · intro hc
        have hc' : ¬ (p &&& C = p) := fun q => hc (beq_iff_eq.mpr (by omega))
        walk_at "go"
        refine ⟨rfl, h₁₀, _, zs, rfl, X₁₁, plP₁₀, I₁₀, J₁₀, ?_⟩
        rw [ways2_succ _ _ _ hp1, if_neg hc', List.append_nil]
        exact hzs
      rintro f s' ⟨rfl, h₁₂, tk₁₂, zs', rfl, X₁₂, pl₁₂, I₁₂, J₁₂, hz'⟩
      dsimp only
      walk_at "go"
      refine ⟨j, by omega, h₁₂, _, m₁₀, zs', p + 1, rfl, X₁₂, pl₁₂, I₁₂, ?_, by omega, by omega, f1, f2, hz'⟩
      rw [show (((j + 1 : Nat) : Int) - 1) = (j : Int) by omega] at J₁₂
      exact J₁₂
end
end Mine
end P_Lst

/-! Huf -/
section P_Huf
open PySem PySem.W PySem.Calls PyProof.Rows
namespace Mine

/-- the depths of a way to put at most five together, as powers of three -/
def Sh (cs : List Int) : Prop := cs.Perm [1] ∨ cs.Perm [3, 3] ∨ cs.Perm [9, 9, 3] ∨ cs.Perm [9, 9, 9, 9] ∨ cs.Perm [27, 27, 9, 3] ∨ cs.Perm [27, 27, 9, 9, 9] ∨ cs.Perm [27, 27, 27, 27, 3] ∨ cs.Perm [81, 81, 27, 9, 3]
theorem Sh.perm {cs ds : List Int} (h : Sh cs) (hp : cs.Perm ds) : Sh ds := by
  unfold Sh at h ⊢
  rcases h with h | h | h | h | h | h | h | h
  · exact .inl (hp.symm.trans h)
  · exact .inr (.inl (hp.symm.trans h))
  · exact .inr (.inr (.inl (hp.symm.trans h)))
  · exact .inr (.inr (.inr (.inl (hp.symm.trans h))))
  · exact .inr (.inr (.inr (.inr (.inl (hp.symm.trans h)))))
  · exact .inr (.inr (.inr (.inr (.inr (.inl (hp.symm.trans h))))))
  · exact .inr (.inr (.inr (.inr (.inr (.inr (.inl (hp.symm.trans h)))))))
  · exact .inr (.inr (.inr (.inr (.inr (.inr (.inr (hp.symm.trans h)))))))
theorem Sh.top {cs : List Int} (h : Sh cs) (h2 : 2 ≤ cs.length) : ∃ c' rest, cs.Perm (3 * c' :: 3 * c' :: rest) ∧ (∀ x ∈ cs, x ≤ 3 * c') ∧ Sh (c' :: rest) := by
  have go : ∀ (c' : Int) (rest : List Int), cs.Perm (3 * c' :: 3 * c' :: rest) → (∀ x ∈ (3 * c' :: 3 * c' :: rest), x ≤ 3 * c') → Sh (c' :: rest) → ∃ c' rest, cs.Perm (3 * c' :: 3 * c' :: rest) ∧ (∀ x ∈ cs, x ≤ 3 * c') ∧ Sh (c' :: rest) :=
    fun c' rest hp hx hs => ⟨c', rest, hp, fun x hx' => hx x (hp.mem_iff.mp hx'), hs⟩
  unfold Sh at h
  rcases h with h | h | h | h | h | h | h | h
  · have := h.length_eq; simp at this; omega
  · exact go 1 [] h (by decide) (by unfold Sh; decide)
  · exact go 3 [3] h (by decide) (by unfold Sh; decide)
  · exact go 3 [9, 9] h (by decide) (by unfold Sh; decide)
  · exact go 9 [9, 3] h (by decide) (by unfold Sh; decide)
  · exact go 9 [9, 9, 9] h (by decide) (by unfold Sh; decide)
  · exact go 9 [27, 27, 3] h (by decide) (by unfold Sh; decide)
  · exact go 27 [27, 9, 3] h (by decide) (by unfold Sh; decide)
theorem Sh.join {cs ds : List Int} (h : Sh cs) (k : Sh ds) (h5 : cs.length + ds.length ≤ 5) : Sh ((cs ++ ds).map (3 * ·)) := by
  have go : ∀ (as bs : List Int), cs.Perm as → ds.Perm bs → Sh ((as ++ bs).map (3 * ·)) → Sh ((cs ++ ds).map (3 * ·)) := fun as bs ha hb hs => hs.perm (((ha.append hb).map _).symm)
  have no : ∀ (as bs : List Int), cs.Perm as → ds.Perm bs → 5 < as.length + bs.length → Sh ((cs ++ ds).map (3 * ·)) := fun as bs ha hb hl => by
    rw [← ha.length_eq, ← hb.length_eq] at hl; omega
  unfold Sh at h k
  rcases h with h | h | h | h | h | h | h | h <;> rcases k with k | k | k | k | k | k | k | k <;> first | exact no _ _ h k (by decide) | exact go _ _ h k (by unfold Sh; decide)

def dotL (L : List (Int × Int)) : Int := (L.map fun p => p.1 * p.2).sum
theorem sum_perm {l k : List Int} (h : l.Perm k) : l.sum = k.sum := by
  induction h with
  | nil => rfl
  | cons x _ ih => rw [List.sum_cons, List.sum_cons, ih]
  | swap x y l => simp only [List.sum_cons]; omega
  | trans _ _ h1 h2 => exact h1.trans h2
theorem dotL_perm {L K : List (Int × Int)} (h : L.Perm K) : dotL L = dotL K := by
  unfold dotL
  exact sum_perm (h.map _)
theorem dotL_cons (p : Int × Int) (L : List (Int × Int)) : dotL (p :: L) = p.1 * p.2 + dotL L := rfl
/-- a value of a way over some weights -/
def Fm (ws : List Int) (v : Int) : Prop := ∃ L : List (Int × Int), (L.map Prod.snd).Perm ws ∧ Sh (L.map Prod.fst) ∧ v = dotL L
theorem Fm.perm {ws us : List Int} {v : Int} (h : Fm ws v) (hp : ws.Perm us) : Fm us v := let ⟨L, a, b, c⟩ := h; ⟨L, a.trans hp, b, c⟩
theorem Fm.one (w : Int) : Fm [w] w := ⟨[(1, w)], .refl _, .inl (.refl _), by simp [dotL]⟩
theorem dotL_scale : ∀ L : List (Int × Int), dotL (L.map fun p => (3 * p.1, p.2)) = 3 * dotL L
  | [] => rfl
  | p :: L => by
    rw [List.map_cons, dotL_cons, dotL_cons, dotL_scale L]
    show 3 * p.1 * p.2 + 3 * dotL L = _
    grind
theorem dotL_append (L K : List (Int × Int)) : dotL (L ++ K) = dotL L + dotL K := by
  unfold dotL; rw [List.map_append, List.sum_append]
theorem Fm.join {ws us : List Int} {v u : Int} (h : Fm ws v) (k : Fm us u) (h5 : ws.length + us.length ≤ 5) : Fm (ws ++ us) (3 * (v + u)) := by
  obtain ⟨L, a, b, rfl⟩ := h
  obtain ⟨K, a', b', rfl⟩ := k
  refine ⟨(L ++ K).map fun p => (3 * p.1, p.2), ?_, ?_, ?_⟩
  · rw [List.map_map, List.map_append]
    exact a.append a'
  · have e : ((L ++ K).map fun p => (3 * p.1, p.2)).map Prod.fst = (L.map Prod.fst ++ K.map Prod.fst).map (3 * ·) := by
      simp [List.map_map, Function.comp_def]
    rw [e]
    refine b.join b' ?_
    have l1 := a.length_eq
    have l2 := a'.length_eq
    simp only [List.length_map] at l1 l2 ⊢
    omega
  · rw [dotL_scale, dotL_append]

/-- the largest coefficient to the least weight -/
theorem bring {c a : Int} {cr wr : List Int} {L : List (Int × Int)} (hc : (L.map Prod.fst).Perm (c :: cr)) (hw : (L.map Prod.snd).Perm (a :: wr)) (h1 : ∀ x ∈ L.map Prod.fst, x ≤ c) (h2 : ∀ x ∈ L.map Prod.snd, a ≤ x) :
    ∃ T : List (Int × Int), (T.map Prod.fst).Perm cr ∧ (T.map Prod.snd).Perm wr ∧ c * a + dotL T ≤ dotL L := by
  obtain ⟨⟨d, a'⟩, hm, ea⟩ := List.mem_map.mp (hw.mem_iff.mpr List.mem_cons_self)
  have ea' : a' = a := ea
  subst ea'
  obtain ⟨T0, hT0⟩ : ∃ T0, L.Perm ((d, a') :: T0) := ⟨L.erase (d, a'), List.perm_cons_erase hm⟩
  have q1 : (d :: T0.map Prod.fst).Perm (c :: cr) := (hT0.map Prod.fst).symm.trans hc
  have q2 : (a' :: T0.map Prod.snd).Perm (a' :: wr) := (hT0.map Prod.snd).symm.trans hw
  by_cases hd : d = c
  · subst hd
    refine ⟨T0, q1.cons_inv, q2.cons_inv, ?_⟩
    rw [dotL_perm hT0, dotL_cons]
    exact Int.le_refl _
  · have hcm : c ∈ T0.map Prod.fst := by
      rcases List.mem_cons.mp (q1.mem_iff.mpr List.mem_cons_self) with q | q
      · exact absurd q.symm hd
      · exact q
    obtain ⟨⟨c', x⟩, hm', ec⟩ := List.mem_map.mp hcm
    have ec' : c' = c := ec
    subst ec'
    obtain ⟨T1, hT1⟩ : ∃ T1, T0.Perm ((c', x) :: T1) := ⟨T0.erase (c', x), List.perm_cons_erase hm'⟩
    have hdc : d ≤ c' := h1 d (List.mem_map.mpr ⟨_, hm, rfl⟩)
    have hax : a' ≤ x := h2 x (List.mem_map.mpr ⟨(c', x), hT0.mem_iff.mpr (List.mem_cons_of_mem _ hm'), rfl⟩)
    refine ⟨(d, x) :: T1, ?_, ?_, ?_⟩
    · have : (d :: c' :: T1.map Prod.fst).Perm (c' :: cr) := ((hT1.map Prod.fst).symm.cons d).trans q1
      exact ((List.Perm.swap _ _ _).trans this).cons_inv
    · exact (hT1.map Prod.snd).symm.trans q2.cons_inv
    · have e1 : dotL L = d * a' + (c' * x + dotL T1) := by rw [dotL_perm hT0, dotL_cons, dotL_perm hT1, dotL_cons]
      have e2 : dotL ((d, x) :: T1) = d * x + dotL T1 := dotL_cons _ _
      rw [e1, e2]
      have h : 0 ≤ (c' - d) * (x - a') := Int.mul_nonneg (by omega) (by omega)
      grind
theorem Fm.step {a b : Int} {r : List Int} {v : Int} (h : Fm (a :: b :: r) v) (h1 : ∀ x ∈ b :: r, a ≤ x) (h2 : ∀ x ∈ r, b ≤ x) : ∃ v', v' ≤ v ∧ Fm (3 * (a + b) :: r) v' := by
  obtain ⟨L, hw, hs, rfl⟩ := h
  obtain ⟨c', rest, hc, hle, hs'⟩ := hs.top (by have := hw.length_eq; simp only [List.length_map, List.length_cons] at this ⊢; omega)
  obtain ⟨T, t1, t2, t3⟩ := bring hc hw hle (fun x hx => by
    rcases List.mem_cons.mp (hw.mem_iff.mp hx) with q | q
    · rw [q]; exact Int.le_refl _
    · exact h1 x q)
  obtain ⟨U, u1, u2, u3⟩ := bring t1 t2 (fun x hx => hle x (hc.mem_iff.mpr (List.mem_cons_of_mem _ (t1.mem_iff.mp hx)))) (fun x hx => by
    rcases List.mem_cons.mp (t2.mem_iff.mp hx) with q | q
    · rw [q]; exact Int.le_refl _
    · exact h2 x q)
  refine ⟨dotL ((c', 3 * (a + b)) :: U), ?_, (c', 3 * (a + b)) :: U, ?_, ?_, rfl⟩
  · rw [dotL_cons]
    show c' * (3 * (a + b)) + dotL U ≤ _
    have e : c' * (3 * (a + b)) = 3 * c' * a + 3 * c' * b := by grind
    omega
  · exact u2.cons _
  · exact hs'.perm (u1.symm.cons _)
theorem Fm.last {w v : Int} (h : Fm [w] v) : v = w := by
  obtain ⟨L, hw, hs, rfl⟩ := h
  have hl := hw.length_eq
  match L, hl with
  | [(c, x)], _ =>
    have e1 : x = w := by have := List.perm_singleton.mp hw; simpa using this
    have e2 : c = 1 := by
      unfold Sh at hs
      rcases hs with q | q | q | q | q | q | q | q
      · have := List.perm_singleton.mp q; simpa using this
      all_goals (have := q.length_eq; simp at this)
    rw [e1, e2]; simp [dotL]

def wt (e : Ent) : Int := 5 * e.m + 2
theorem Gr.low {p : Int} {es : List Ent} {ps : List (Ent × Ent)} {l : Ent} (h : Gr p es ps l) (hd : PD p es) (hp : 0 ≤ p) (hz : p + es.length ≤ 1000) (hm : ∀ e ∈ es, e.m = marks e.x) {v : Int} (hv : Fm (es.map wt) v) : wt l ≤ v := by
  induction h generalizing v with
  | one p e => exact Int.le_of_eq hv.last.symm
  | @step p es a b r ps l hq ha hb hg ih =>
    have hd1 := hd.perm hq
    have hl := hq.length_eq
    simp only [List.length_cons] at hl
    have km : ∀ x y, x ∈ a :: b :: r → y ∈ a :: b :: r → key x ≤ key y → wt x ≤ wt y := fun x y hx hy hk => by
      have := hd1.1 x hx
      have := hd1.1 y hy
      unfold key at hk
      unfold wt
      omega
    obtain ⟨v', hv', hF⟩ := (hv.perm (hq.map wt)).step (fun x hx => by
      obtain ⟨y, hy, rfl⟩ : ∃ y ∈ b :: r, wt y = x := List.mem_map.mp hx
      exact km a y List.mem_cons_self (List.mem_cons_of_mem _ hy) (ha y hy)) (fun x hx => by
      obtain ⟨y, hy, rfl⟩ := List.mem_map.mp hx
      exact km b y (List.mem_cons_of_mem _ List.mem_cons_self) (List.mem_cons_of_mem _ (List.mem_cons_of_mem _ hy)) (hb y hy))
    have ma := hm a (hq.mem_iff.mpr List.mem_cons_self)
    have mb := hm b (hq.mem_iff.mpr (List.mem_cons_of_mem _ List.mem_cons_self))
    have ew : wt (mkE a b p) = 3 * (wt a + wt b) := by
      unfold wt mkE
      dsimp only
      rw [line_marks, ← ma, ← mb]
      omega
    have := ih (hd1.tail.tail.next hp rfl) (by omega) (by simp only [List.length_cons]; omega) (fun e he => by
      rcases List.mem_cons.mp he with rfl | he
      · rfl
      · exact hm e (hq.mem_iff.mpr (List.mem_cons_of_mem _ (List.mem_cons_of_mem _ he)))) (v := v') (by rw [List.map_cons, ew]; exact hF)
    omega
end Mine
end P_Huf

/-! Huf2 -/
section P_Huf2
open PySem PySem.W PySem.Calls PyProof.Rows
namespace Mine

theorem mask1 : ∀ a, a < 32 → ∀ b, b < 32 → a &&& b = 0 → a &&& (a + b) = a := by decide +kernel
theorem mask0 : ∀ a, a < 32 → ∀ b, b < 32 → a &&& b = 0 → a + b = a ||| b := by decide +kernel
theorem mask2 (a : Nat) (ha : a < 32) (b : Nat) (hb : b < 32) (c : Nat) (h1 : a &&& b = 0) (h2 : a &&& c = 0) (h3 : b &&& c = 0) : (a + b) &&& c = 0 := by
  rw [mask0 a ha b hb h1, Nat.and_or_distrib_right, h2, h3]; rfl
theorem mem_le_sum : ∀ {l : List Nat} {x : Nat}, x ∈ l → x ≤ l.sum
  | y :: l, x, h => by
    rw [List.sum_cons]
    rcases List.mem_cons.mp h with rfl | h
    · omega
    · have := mem_le_sum h; omega
theorem sum_permN {l k : List Nat} (h : l.Perm k) : l.sum = k.sum := by
  induction h with
  | nil => rfl
  | cons x _ ih => rw [List.sum_cons, List.sum_cons, ih]
  | swap x y l => simp only [List.sum_cons]; omega
  | trans _ _ h1 h2 => exact h1.trans h2

theorem Gr.up {ms : List Int} {Lf : Nat → Int} {N : Nat} (hdp : DP ms Lf N) (hN : N ≤ 32) (hN1 : 1 ≤ N) {p : Int} {es : List Ent} {ps : List (Ent × Ent)} {l : Ent} (h : Gr p es ps l) (hd : PD p es) (hp : 0 ≤ p) (hm : ∀ e ∈ es, e.m = marks e.x)
    (M : Int → Nat) (h1 : ∀ e ∈ es, Lf (M e.p) ≤ e.m ∧ 1 ≤ M e.p) (h2 : es.Pairwise fun a b => M a.p &&& M b.p = 0) (h3 : (es.map fun e => M e.p).sum = N - 1) : Lf (N - 1) ≤ l.m := by
  induction h generalizing M with
  | one p e =>
    simp at h3
    rw [← h3]
    exact (h1 e (by simp)).1
  | @step p es a b r ps l hq ha hb hg ih =>
    have hd1 := hd.perm hq
    have h2' : (a :: b :: r).Pairwise fun a b => M a.p &&& M b.p = 0 := h2.perm hq fun {x y} hxy => by rw [Nat.and_comm]; exact hxy
    have h3' : M a.p + (M b.p + (r.map fun e => M e.p).sum) = N - 1 := by
      rw [← h3, sum_permN (hq.map fun e => M e.p)]; simp
    have h1' : ∀ e ∈ a :: b :: r, Lf (M e.p) ≤ e.m ∧ 1 ≤ M e.p := fun e he => h1 e (hq.mem_iff.mpr he)
    have hm' : ∀ e ∈ a :: b :: r, e.m = marks e.x := fun e he => hm e (hq.mem_iff.mpr he)
    obtain ⟨la, ga⟩ := h1' a List.mem_cons_self
    obtain ⟨lb, gb⟩ := h1' b (List.mem_cons_of_mem _ List.mem_cons_self)
    have pa := List.pairwise_cons.mp h2'
    have pb := List.pairwise_cons.mp pa.2
    have hab : M a.p &&& M b.p = 0 := pa.1 b List.mem_cons_self
    have hS := (hdp (M a.p + M b.p) (by omega) (by omega)).2 (3 * (Lf (M a.p) + Lf (M b.p)) + 2) (by
      refine List.mem_append_right _ ?_
      unfold ways2
      refine List.mem_map.mpr ⟨M a.p, List.mem_filter.mpr ⟨List.mem_range'_1.mpr ⟨ga, by omega⟩, ?_⟩, by rw [Nat.add_sub_cancel_left]⟩
      exact decide_eq_true (mask1 _ (by omega) _ (by omega) hab))
    have hr : ∀ e ∈ r, e.p ≠ p := fun e he q => by
      have := hd1.1 e (List.mem_cons_of_mem _ (List.mem_cons_of_mem _ he)); omega
    obtain ⟨M', hM', hMn⟩ : ∃ M' : Int → Nat, (∀ e ∈ r, M' e.p = M e.p) ∧ M' (mkE a b p).p = M a.p + M b.p := ⟨fun q => if q = p then M a.p + M b.p else M q, fun e he => if_neg (hr e he), if_pos rfl⟩
    have hmn : (mkE a b p).m = 3 * (a.m + b.m) + 2 := by
      unfold mkE
      dsimp only
      rw [line_marks, ← hm' a List.mem_cons_self, ← hm' b (List.mem_cons_of_mem _ List.mem_cons_self)]
    refine ih (hd1.tail.tail.next hp rfl) (by omega) (fun e he => ?_) M' (fun e he => ?_) ?_ ?_
    · rcases List.mem_cons.mp he with rfl | he
      · rfl
      · exact hm' e (List.mem_cons_of_mem _ (List.mem_cons_of_mem _ he))
    · rcases List.mem_cons.mp he with rfl | he
      · rw [hMn, hmn]; constructor <;> omega
      · rw [hM' e he]; exact h1' e (List.mem_cons_of_mem _ (List.mem_cons_of_mem _ he))
    · refine List.pairwise_cons.mpr ⟨fun e he => ?_, ?_⟩
      · rw [hMn, hM' e he]
        have hs := mem_le_sum (List.mem_map_of_mem (f := fun e => M e.p) he)
        exact mask2 _ (by omega) _ (by omega) _ hab (pa.1 e (List.mem_cons_of_mem _ he)) (pb.1 e he)
      · refine pb.2.imp_of_mem fun {x y} hx hy hxy => ?_
        rw [hM' x hx, hM' y hy]; exact hxy
    · rw [List.map_cons, List.sum_cons, hMn, List.map_congr_left hM']
      omega

def bits (S : Nat) : List Nat := (List.range 5).filter fun k => S.testBit k
theorem bits_split : ∀ S, S < 32 → ∀ P, P < 32 → P &&& S = P → (bits S).isPerm (bits P ++ bits (S - P)) = true := by decide +kernel
theorem bits_pow : ∀ k, k < 5 → bits (2 ^ k) = [k] := by decide +kernel
theorem bits_len (S : Nat) : (bits S).length ≤ 5 := List.length_filter_le _ _
theorem att {ms : List Int} {Lf : Nat → Int} (h5 : ms.length ≤ 5) (hdp : DP ms Lf (2 ^ ms.length)) : ∀ S, 1 ≤ S → S < 2 ^ ms.length → Fm ((bits S).map fun k => 5 * ms.getD k 0 + 2) (5 * Lf S + 2) := by
  intro S
  induction S using Nat.strongRecOn with
  | _ S ih =>
    intro h1 h2
    have h32 : 2 ^ ms.length ≤ 32 := Nat.pow_le_pow_right (by decide) h5
    rcases List.mem_append.mp (hdp S h1 h2).1 with q | q
    · unfold ways1 at q
      obtain ⟨k, hk, e⟩ := List.mem_map.mp q
      have hk' := List.mem_filter.mp hk
      have hS : S = 2 ^ k := of_decide_eq_true hk'.2
      have hkl := List.mem_range.mp hk'.1
      rw [← e, hS, bits_pow k (by omega)]
      exact Fm.one _
    · unfold ways2 at q
      obtain ⟨P, hP, e⟩ := List.mem_map.mp q
      have hP' := List.mem_filter.mp hP
      have hPS : P &&& S = P := of_decide_eq_true hP'.2
      have hPr := List.mem_range'_1.mp hP'.1
      have f1 := ih P (by omega) (by omega) (by omega)
      have f2 := ih (S - P) (by omega) (by omega) (by omega)
      have hp := List.isPerm_iff.mp (bits_split S (by omega) P (by omega) hPS)
      have hl := hp.length_eq
      have hb := bits_len S
      rw [List.length_append] at hl
      have f3 := f1.join f2 (by rw [List.length_map, List.length_map]; omega)
      rw [← List.map_append] at f3
      have f4 := f3.perm (hp.symm.map _)
      rw [← e]
      have ee : 5 * (3 * (Lf P + Lf (S - P)) + 2) + 2 = 3 * (5 * Lf P + 2 + (5 * Lf (S - P) + 2)) := by omega
      rw [ee]
      exact f4

theorem huffman {ws : List Value} (h3 : 3 ≤ ws.length) (h5 : ws.length ≤ 5) {prs : List (Ent × Ent)} {last : Ent} {Lf : Nat → Int} (hg : Gr ws.length (ent0 ws) prs last) (hdp : DP ((ent0 ws).map Ent.m) Lf (2 ^ ws.length)) : last.m = Lf (2 ^ ws.length - 1) := by
  have hl : ((ent0 ws).map Ent.m).length = ws.length := by rw [List.length_map, ent0_len]
  have hmk : ∀ e ∈ ent0 ws, e.m = marks e.x := fun e he => by
    obtain ⟨i, hi, rfl⟩ := List.mem_mapIdx.mp he
    rfl
  have hN : ws.length = 3 ∨ ws.length = 4 ∨ ws.length = 5 := by omega
  have hN32 : 2 ^ ws.length ≤ 32 := Nat.pow_le_pow_right (by decide) h5
  have hat : ∀ (i : Nat) (hi : i < ws.length), ((ent0 ws).map Ent.m).getD i 0 = ((ent0 ws)[i]'(by rw [ent0_len]; exact hi)).m := fun i hi => by
    rw [List.getD_eq_getElem?_getD, List.getElem?_eq_getElem (by rw [hl]; exact hi), List.getElem_map]; rfl
  have hpi : ∀ (i : Nat) (hi : i < (ent0 ws).length), (ent0 ws)[i].p = (i : Int) := fun i hi => by
    simp [ent0]
  -- no more than the fewest
  have up : Lf (2 ^ ws.length - 1) ≤ last.m := by
    refine Gr.up hdp hN32 (Nat.one_le_two_pow) hg (ent0_pd ws) (by omega) hmk (fun q => 2 ^ q.toNat) (fun e he => ?_) ?_ ?_
    · obtain ⟨i, hi, rfl⟩ := List.mem_iff_getElem.mp he
      have hi' : i < ws.length := by rw [ent0_len] at hi; exact hi
      rw [hpi i hi, Int.toNat_natCast]
      have h1 : 1 ≤ 2 ^ i := Nat.one_le_two_pow
      refine ⟨(hdp (2 ^ i) h1 (Nat.pow_lt_pow_right (by decide) hi')).2 _ (List.mem_append_left _ ?_), h1⟩
      unfold ways1
      refine List.mem_map.mpr ⟨i, List.mem_filter.mpr ⟨List.mem_range.mpr (by rw [hl]; exact hi'), by simp⟩, hat i hi'⟩
    · rw [List.pairwise_iff_getElem]
      intro i j hi hj hij
      rw [hpi i hi, hpi j hj, Int.toNat_natCast, Int.toNat_natCast]
      have hj5 : j < 5 := by rw [ent0_len] at hj; omega
      have : ∀ j, j < 5 → ∀ i, i < j → 2 ^ i &&& 2 ^ j = 0 := by decide
      exact this j hj5 i hij
    · have e : ((ent0 ws).map fun e => 2 ^ e.p.toNat) = (List.range ws.length).map (2 ^ ·) := by
        refine List.ext_getElem (by simp [ent0_len]) fun i hi hi' => ?_
        rw [List.getElem_map, List.getElem_map, hpi i (by simpa using hi), List.getElem_range, Int.toNat_natCast]
      rw [e]
      rcases hN with e | e | e <;> rw [e] <;> decide
  -- no fewer
  have low : wt last ≤ 5 * Lf (2 ^ ws.length - 1) + 2 := by
    refine Gr.low hg (ent0_pd ws) (by omega) (by rw [ent0_len]; omega) hmk ?_
    have h8 : 8 ≤ 2 ^ ws.length := by rcases hN with e | e | e <;> rw [e] <;> decide
    have := att (ms := (ent0 ws).map Ent.m) (by rw [hl]; exact h5) (by rw [hl]; exact hdp) (2 ^ ws.length - 1) (by omega) (by rw [hl]; omega)
    have e : (bits (2 ^ ws.length - 1)).map (fun k => 5 * ((ent0 ws).map Ent.m).getD k 0 + 2) = (ent0 ws).map wt := by
      have eb : bits (2 ^ ws.length - 1) = List.range ws.length := by rcases hN with e | e | e <;> rw [e] <;> decide +kernel
      rw [eb]
      refine List.ext_getElem (by simp [ent0_len]) fun i hi hi' => ?_
      rw [List.getElem_map, List.getElem_map, List.getElem_range, hat i (by simpa using hi)]
      rfl
    rw [e] at this
    exact this
  unfold wt at low
  omega
end Mine
end P_Huf2

/-! Eqd -/
section P_Eqd
open PySem PySem.W PySem.Calls PyProof.Rows
namespace Mine

def entD (e : Ent) : PyData := .tuple [.int e.m, .int e.p, .str e.x]
def pairD (e : Ent × Ent) : PyData := .tuple [entD e.1, entD e.2]
def datD (prs : List (Ent × Ent)) (last : Ent) : PyData := .tuple [.list (prs.map pairD), .list [entD last]]
theorem ent_reads {h : Heap} {a : Addr} {e : Ent} (i : IsEnt h a e) : Reads h (.ref a) (entD e) [] := by
  obtain ⟨t1, t2, t3, g⟩ := i
  exact .tuple g rfl rfl (.cons (.int _ _) (.cons (.int _ _) (.cons (.str _ _) .nil)))
theorem pair_reads {h : Heap} {v : Value} {e : Ent × Ent} (i : IsPair h v e) : Reads h v (pairD e) [] := by
  obtain ⟨a, a1, a2, rfl, g, i1, i2⟩ := i
  exact .tuple g rfl rfl (.cons (ent_reads i1) (.cons (ent_reads i2) .nil))
theorem reads_snoc {h : Heap} {v : Value} {d : PyData} (hv : Reads h v d []) : ∀ {vs : List Value} {ds : List PyData}, ReadsAll h vs ds [] → ReadsAll h (vs ++ [v]) (ds ++ [d]) []
  | [], _, r => by cases r; exact .cons hv .nil
  | u :: vs, ds, r => by
    generalize hA : ([] : List Addr) = A' at r
    cases r with
    | @cons _ _ d' ds' as bs r1 r2 =>
      have h1 : as = [] := (List.append_eq_nil_iff.mp hA.symm).1
      have h2 : bs = [] := (List.append_eq_nil_iff.mp hA.symm).2
      subst h1; subst h2
      exact .cons r1 (reads_snoc hv r2)
theorem pairs_reads {h : Heap} {vs : List Value} {prs : List (Ent × Ent)} (x : ArePairs h vs prs) : ReadsAll h vs (prs.map pairD) [] := by
  induction x with
  | nil => exact .nil
  | snoc _ hv ih => rw [List.map_append]; exact reads_snoc (pair_reads hv) ih
theorem told_reads {h : Heap} {a : Addr} {prs : List (Ent × Ent)} {last : Ent} (x : IsTold h a prs last) : ∃ as, Reads h (.ref a) (datD prs last) as := by
  obtain ⟨P, D, vs, v, g, ⟨n, gP⟩, hp, ⟨k, gD⟩, i⟩ := x
  exact ⟨_, .tuple g rfl rfl (.cons (.list gP rfl rfl (pairs_reads hp)) (.cons (.list gD rfl rfl (.cons (ent_reads i) .nil)) .nil))⟩
theorem ok_str {x : Str} (h : Ok x) : PyData.strOk x = true := by
  unfold PyData.strOk
  rw [Array.all_eq_true]
  intro i hi
  have := h i hi
  rw [Array.getD_eq_getD_getElem?, Array.getElem?_eq_getElem hi] at this
  rcases okc_cases this with q | q | q | q | q | q | q <;> (simp only [Option.getD_some] at q; rw [q]; decide)
theorem ent_lay {e : Ent} (h : Ok e.x) : (entD e).canLay0 = true := by
  simp [entD, PyData.canLay0, PyData.canLayAll0, ok_str h]
theorem pairs_lay : ∀ {prs : List (Ent × Ent)}, (∀ q ∈ prs, Ok q.1.x ∧ Ok q.2.x) → PyData.canLayAll0 (prs.map pairD) = true
  | [], _ => rfl
  | q :: prs, h => by
    have hq := h q List.mem_cons_self
    rw [List.map_cons, PyData.canLayAll0, pairs_lay fun r hr => h r (List.mem_cons_of_mem _ hr)]
    simp [pairD, PyData.canLay0, PyData.canLayAll0, ent_lay hq.1, ent_lay hq.2]
theorem pairs_depth : ∀ prs : List (Ent × Ent), PyData.depthAll (prs.map pairD) ≤ 2
  | [] => Nat.zero_le _
  | q :: prs => by
    rw [List.map_cons, PyData.depthAll]
    have := pairs_depth prs
    have e : (pairD q).depth = 2 := by simp [pairD, entD, PyData.depth, PyData.depthAll]
    omega
theorem told_shaped {prs : List (Ent × Ent)} {last : Ent} (h : ∀ q ∈ prs, Ok q.1.x ∧ Ok q.2.x) (hl : Ok last.x) : (datD prs last).canLay0 = true ∧ SeqAt.shaped (datD prs last) = true := by
  have h1 : (datD prs last).canLay0 = true := by
    simp [datD, PyData.canLay0, PyData.canLayAll0, pairs_lay h, ent_lay hl]
  refine ⟨h1, ?_⟩
  unfold SeqAt.shaped
  rw [h1, Bool.true_and, decide_eq_true_eq]
  have := pairs_depth prs
  simp only [datD, entD, PyData.depth, PyData.depthAll]
  omega
theorem Gr.texts {p : Int} {es : List Ent} {ps : List (Ent × Ent)} {l : Ent} (h : Gr p es ps l) (ho : ∀ e ∈ es, Ok e.x) : (∀ q ∈ ps, Ok q.1.x ∧ Ok q.2.x) ∧ Ok l.x := by
  induction h with
  | one p e => exact ⟨fun _ h => (nomatch h), ho e List.mem_cons_self⟩
  | @step p es a b r ps l hq ha hb hg ih =>
    have oa := ho a (hq.mem_iff.mpr List.mem_cons_self)
    have ob := ho b (hq.mem_iff.mpr (List.mem_cons_of_mem _ List.mem_cons_self))
    obtain ⟨i1, i2⟩ := ih fun e he => by
      rcases List.mem_cons.mp he with rfl | he
      · exact line_ok oa ob
      · exact ho e (hq.mem_iff.mpr (List.mem_cons_of_mem _ (List.mem_cons_of_mem _ he)))
    refine ⟨fun q hq' => ?_, i2⟩
    rcases List.mem_cons.mp hq' with rfl | hq'
    · exact ⟨oa, ob⟩
    · exact i1 q hq'
section
variable {prog : Program} {w : World} {A : Around} {E : Value → Shared → Prop} {s : Shared}
theorem told_eq {a b : Addr} {prs : List (Ent × Ent)} {last : Ent} {Q : Value → Shared → Prop} (ha : IsTold s.heap a prs last) (hb : IsTold s.heap b prs last) (ho : ∀ q ∈ prs, Ok q.1.x ∧ Ok q.2.x) (hl : Ok last.x) (hu : A.units + 64 < cLine) (h : Q (.bool true) s) :
    wpAny (model prog w) A (compareOp .Eq (.ref a) (.ref b)) Q E s := by
  obtain ⟨as, ra⟩ := told_reads ha
  obtain ⟨bs, rb⟩ := told_reads hb
  obtain ⟨s1, s2⟩ := told_shaped ho hl
  refine eq_dataH ra rb s2 s2 hu ?_
  rw [SeqAt.eqv_refl _ s1]
  exact h
end
end Mine
end P_Eqd

/-! Law -/
section P_Law
open PySem PySem.W PySem.Calls PyProof.Rows
namespace Mine
local macro_rules | `(tactic| walk_at "ld") => `(tactic| ((with_reducible refine' ld (by assumption) ?mv ?_ ?mk ?ml ?md); (case mv => exact rfl); (case mk => exact rfl); (case ml => exact rfl); (case md => decide)))
local macro_rules | `(tactic| walk_at "st") => `(tactic| ((with_reducible refine stN (by assumption) (by assumption) ?_ ?mk ?ml); (case mk => exact rfl); (case ml => exact rfl)))
local macro_rules | `(tactic| walk_at "1") => `(tactic| first
  | with_reducible refine wpAny_execs_cons ?_
  | with_reducible refine wpAny_execs_nil ?_
  | with_reducible refine wpAny_Return_some ?_
  | with_reducible refine wpAny_If ?_
  | with_reducible refine wpAny_BinOp ?_
  | (with_reducible refine Constant_str ?_; try dsimp only)
  | (with_reducible refine wpAny_Constant_int ?_; try dsimp only)
  | with_reducible refine Subscript_ ?_
  | with_reducible refine isTrue_not ?_
  | with_reducible refine isTrue_and ?_
  | with_reducible refine isTrue_and_nil ?_
  | ((with_reducible refine wpAny_isTrue_Compare1 ?_ ?mh); (case mh => exact rfl))
  | ((with_reducible refine wpAny_Compare1 ?_ ?mh); (case mh => exact rfl))
  | ((with_reducible refine wpAny_Assign_Name ?_ ?mh); (case mh => exact rfl))
  | ((with_reducible refine wpAny_Assign_Subscript ?_ ?mh); (case mh => exact rfl))
  | walk_at "ld"
  | ((with_reducible refine isTrue_plain ?_ ?mh); (case mh => exact rfl))
  | ((with_reducible refine mcallN ?_ ?mh ?mi); (case mh => exact rfl); (case mi => exact rfl))
  | ((with_reducible refine mcallC ?_ ?mh ?mi); (case mh => exact rfl); (case mi => exact rfl))
  | ((with_reducible refine mcallF ?_ ?mh ?mi); (case mh => exact rfl); (case mi => exact rfl))
  | with_reducible refine wpAny_truthy_bool ?_
  | (with_reducible refine PyProof.Rows.add_int ?_; try dsimp only)
  | (with_reducible refine PyProof.Rows.sub_int ?_; try dsimp only)
  | with_reducible refine PyProof.Rows.gt_int ?_
  | with_reducible refine PyProof.Rows.lt_int ?_
  | with_reducible refine PyProof.Rows.eq_int ?_
  | with_reducible refine PyProof.Rows.ne_int ?_
  | with_reducible refine isTrue_and ?_
  | with_reducible refine isTrue_and_nil ?_
  | ((with_reducible refine wpAny_Expr_any ?_ ?mh ?mi); (case mh => exact rfl); (case mi => exact rfl))
  | (with_reducible refine PyProof.Rows.mul_int ?_ (IntMulOk.of_left (by decide)); try dsimp only)
  | with_reducible refine wpAny_Break ?_
  | with_reducible refine wpAny_Continue ?_)
local macro_rules | `(tactic| walk_at "go") => `(tactic| repeat walk_at "1")


section
variable {prog : Program} {w : World} {A : Around} {E : Value → Shared → Prop} {s : Shared} {mg mb : Str → Option Value} {g : Heap}

theorem tup_item {value slice : Expr} {a : Addr} {items : Array Value} {n : Nat} {k : Int} {u : Tok} {j : Nat} {x : Value} {Q : Value → Shared → Prop} (ho : s.heap.get? a = some { cls := .type "tuple", data := .seq items n }) (hlo : -(2 ^ 63) ≤ k) (hhi : k < 2 ^ 63)
    (hj : seqIndex? k items.size = some j) (hx : items[j]? = some x) (h : Q x s) (hs : subscripted slice false (.ref a) (.int k u) = operate [.ref a, .int k u] (getItem (.ref a) (.int k u))) : wpAny (model prog w) A (subscriptTail value slice (.ref a) (.int k u)) Q E s :=
  have ht : IsTup s.heap a items := ⟨_, ho, rfl, n, rfl⟩
  tail_any ht.typeIs slot_tuple_getitem.lookup (getItem_tuple ht hlo hhi hj hx h) hs
theorem marks_ints : ∀ {us zs : List Value}, Paired (fun v y => ∃ t, y = Value.int (marks (strOf v)) t) us zs → IntsAre zs (us.map fun v => marks (strOf v))
  | _, _, .nil => .nil
  | _, _, .cons ⟨t, e⟩ r => by subst e; exact .cons _ t (marks_ints r)
theorem ent0_m (ws : List Value) : (ent0 ws).map Ent.m = ws.map fun v => marks (strOf v) := by
  refine List.ext_getElem (by simp [ent0]) fun i hi hi' => ?_
  simp [ent0]
theorem TK.told {h h' : Heap} {a : Addr} {prs : List (Ent × Ent)} {last : Ent} (x : IsTold h a prs last) (hk : ∀ b o, h.get? b = some o → h'.get? b = some o) : IsTold h' a prs last := by
  obtain ⟨P, D, vs, v, g, hP, hp, hD, i⟩ := x
  exact ⟨P, D, vs, v, hk _ _ g, hP.at fun o e => hk _ o e, hp.at (TK.all hk), hD.at fun o e => hk _ o e, i.tk (TK.all hk)⟩

theorem stF {M : Model} {name : Str} {scope : Scope} {L a : Addr} {cd : Value} {b : Heap} {m : Str → Option Value} {x : Str} {v : Value} {Q : Unit → Shared → Prop} (F : Fr b L s.heap m)
    (h : ∀ h', Fr b L h' (fun y => if y = x then some v else m y) → (∀ z o, z ≠ L → s.heap.get? z = some o → h'.get? z = some o) → Q () { s with heap := h', toks := s.toks + 1 })
    (hk : scope.kind = .function) (hl : (envOf name scope L a cd).kindOf x = some .local) : wpAny M A (storeName (envOf name scope L a cd) x v) Q E s :=
  wpAny_storeName_local hl F.ns (fun h' hn hs => h h' (F.set hn hs) fun z o hz e => hs.extBut z o hz e)
    (by show (scope.kind == .class || (scope.kind == .module && L != mainGlobals)) = false; rw [hk]; rfl)
theorem told_ns {h h' : Heap} {a L : Addr} {m : Str → Option Value} {prs : List (Ent × Ent)} {last : Ent} (x : IsTold h a prs last) (hn : h.Ns L m) (hk : ∀ b o, b ≠ L → h.get? b = some o → h'.get? b = some o) : IsTold h' a prs last := by
  have tk := TK.ns hn hk
  obtain ⟨P, D, vs, v, g, hP, hp, hD, i⟩ := x
  exact ⟨P, D, vs, v, tk _ _ g rfl ⟨_, _, rfl⟩, hP.at fun o e => hk _ o (list_ns hP hn) e, hp.at tk, hD.at fun o e => hk _ o (list_ns hD hn) e, i.tk tk⟩
theorem law_spec {Sc : Addr} {vs : Array Value} {Q : Value → Shared → Prop} (G : Gd w mg mb g) (St : ∀ b o, g.get? b = some o → s.heap.get? b = some o) (hg38 : g.get? 38 = none) (T : Tb s.heap) (hB : AllBare s.gens) (hh : A.handled = none)
    (hroom : A.depth + 20 < recursionLimit) (hu : A.units + 200 < cLine) (hS : s.heap.IsList Sc vs) (hi : AllInts vs) (hsz : vs.size ≤ 1000)
    (h : ∀ s', Tb s'.heap → (∀ b o, b ≠ 38 → s.heap.get? b = some o → s'.heap.get? b = some o) → AllBare s'.gens → s'.os = s.os → Q (.bool true) s') :
    wpAny (model prog w) A (call (.ref 132) [.ref Sc]) Q E s := by
  refine' callF (a := 132) (binds := [(Str.ofString "script", .ref Sc)]) (G.keeps St) ?ho ?hcd (by omega) ?hb ?hc ?hl ?c1 ?c2 ?c3 ?_
  case ho => exact rfl
  case hcd => kernel_rfl
  case hb => exact rfl
  case hc => decide
  case hl => exact locs rfl
  case c1 => exact rfl
  case c2 => exact rfl
  case c3 => exact rfl
  intro h₁ L hL F₀
  have hG : ∀ b o, g.get? b = some o → (s.heap.hide 38).get? b = some o := fun b o e => by
    rw [Heap.hide_ne _ (fun q : b = 38 => by rw [q, hg38] at e; cases e)]; exact St b o e
  have G₁ : Gd w mg mb (s.heap.hide 38) := G.keeps hG
  have F : Fr (s.heap.hide 38) L h₁ _ := ⟨F₀.ns, fun b o e => F₀.keep b o (Heap.of_hide e), by rw [Heap.hide_size]; exact F₀.above⟩
  have T₁ : Tb h₁ := T.keeps F₀.keep
  have hS₁ : h₁.IsList Sc vs := hS.at fun o e => F₀.keep _ o e
  have hLb : (s.heap.hide 38).get? L = none := fresh_none F.above
  have h38L : L ≠ 38 := fun q => by obtain ⟨_, _, hT, _⟩ := T; have := Heap.lt_size hT.2; rw [← hL, q] at this; exact Nat.lt_irrefl _ this
  have h42 := G₁.K 42 _ rfl
  have hL42 : L ≠ 42 := fun q => by rw [q, h42] at hLb; cases hLb
  iterate 2 walk_at "1"
  refine cdef (w := w) (G₁.g.keeps F.keep) G₁.words (by kernel_rfl) (arg1 ?_)
  refine wpAny_Subscript_list_slice ?_
  walk_at "ld"
  refine evalPart_none_step ?_
  refine evalPart_some_step ?_
  walk_at "go"
  refine ⟨Sc, vs, none, some 12, rfl, hS₁, by unfold sizeLine; omega, .none, .int _ _, ?_⟩
  rw [show slicePick vs none (some 12) none = (vs.toList.take 12).toArray from slicePick_upto' _ 12]
  try dsimp only
  have k₂ : ∀ b o, h₁.get? b = some o → ((h₁.push { cls := .type "slice", data := .fields #[Value.none, Value.int 12 (s.toks + [(Str.ofString "script", Value.ref Sc)].length), Value.none] }).push { cls := .type "list", data := .seq (List.take 12 vs.toList).toArray }).get? b = some o := fun _ _ e => Heap.get?_push_of_some _ (Heap.get?_push_of_some _ e)
  have hN₂ : ((h₁.push { cls := .type "slice", data := .fields #[Value.none, Value.int 12 (s.toks + [(Str.ofString "script", Value.ref Sc)].length), Value.none] }).push { cls := .type "list", data := .seq (List.take 12 vs.toList).toArray }).IsList (h₁.objs.size + 1) (List.take 12 vs.toList).toArray := by
    have e : h₁.objs.size + 1 = (h₁.push { cls := .type "slice", data := .fields #[Value.none, Value.int 12 (s.toks + [(Str.ofString "script", Value.ref Sc)].length), Value.none] }).objs.size := (Heap.size_push _ _).symm
    rw [e]
    exact (PySem.IsL.new _ _).isList
  generalize hH₂ : (h₁.push { cls := .type "slice", data := .fields #[Value.none, Value.int 12 (s.toks + [(Str.ofString "script", Value.ref Sc)].length), Value.none] }).push { cls := .type "list", data := .seq (List.take 12 vs.toList).toArray } = h₂ at k₂ hN₂ ⊢
  have F₂ := F.keeps k₂
  refine ⟨G₁.K.keeps F₂.keep, ?_⟩
  refine words_spec (G₁.keeps F₂.keep) (by exact hh) (by show A.depth + 1 + 2 < _; omega) hN₂ (fun v hv => hi v (by
    have : v ∈ vs.toList.take 12 := by simpa using hv
    exact Array.mem_toList_iff.mp (List.mem_of_mem_take this))) (by simp; omega) ?_
  intro h₃ tk₃ Wd ws plW w3 w5 hws hWf k₃
  have F₃ := F₂.keeps k₃
  have T₃ := (T₁.keeps k₂).keeps k₃
  clear F F₂
  refine stF F₃ ?_ rfl rfl
  intro h₄ F₄ k₄
  have plW₄ : h₄.PlainList Wd ws := plW.at fun o e => k₄ _ o (list_ns plW F₃.ns) e
  have T₄ : Tb h₄ := T₃.turn h38L hL42 k₄
  clear F₃
  dsimp only
  iterate 2 walk_at "1"
  refine cdef (w := w) (G₁.g.keeps F₄.keep) G₁.nested (by kernel_rfl) (arg1 ?_)
  walk_at "ld"
  refine ⟨G₁.K.keeps F₄.keep, ?_⟩
  refine nested_spec G₁ F₄.keep (Heap.hide_self _ _) T₄ hB (by exact hh) (by show A.depth + 1 + 10 < _; omega) (by show A.units + 3 + 30 < _; omega) plW₄.isList w3 w5 hws ?_
  intro s₅ ta prs last T₅ k₅ B₅ os₅ told₅ gr₅
  have F₅ := Fr.but F₄ (Heap.hide_self _ _) h38L k₅
  have hW38 : Wd ≠ 38 := fun q => by
    obtain ⟨_, _, hT, _⟩ := T₄
    obtain ⟨n, e⟩ := plW₄
    rw [q, hT.2] at e; cases e
  have plW₅ : s₅.heap.PlainList Wd ws := plW₄.at fun o e => k₅ _ o hW38 e
  clear F₄
  refine stF F₅ ?_ rfl rfl
  intro h₆ F₆ k₆
  have plW₆ : h₆.PlainList Wd ws := plW₅.at fun o e => k₆ _ o (list_ns plW₅ F₅.ns) e
  have T₆ : Tb h₆ := T₅.turn h38L hL42 k₆
  have told₆ := told_ns told₅ F₅.ns k₆
  clear F₅ told₅
  obtain ⟨tP, tD, tvs, tv, gT, plP, arP, plD, iL⟩ := id told₆
  walk_at "go"
  refine tup_item gT (by decide) (by decide) (j := 1) rfl rfl ?_ rfl
  walk_at "go"
  refine item_c plD (by decide) (by decide) (x := .ref tv) rfl ?_
  walk_at "go"
  refine ent_num iL (fun tn => ?_) rfl
  walk_at "go"
  refine cdef (w := w) (G₁.g.keeps F₆.keep) G₁.least (by kernel_rfl) (arg1 ?_)
  refine wpAny_ListComp_walk (fun _ => true) (fun v y => ∃ t, y = .int (marks (strOf v)) t) (by decide) (by decide) rfl (by decide) rfl ?_
  walk_at "ld"
  refine wpAny_pyIter_list plW₆.isList ?_
  have hWlt : Wd < h₆.objs.size := by obtain ⟨_, e⟩ := plW₆; exact Heap.lt_size e
  refine ⟨h₆.objs.size, [h₆.objs.size, Wd], [h₆.objs.size], ws.size, _, _, rfl, Walks.list (by exact hh) _ Wd (Nat.ne_of_lt hWlt) ws, (by unfold sizeLine; omega), ⟨⟨_, Heap.get?_push_size _ rfl, rfl, rfl⟩, plW₆.isList.push _⟩, ?hfp, ⟨?t, ?e⟩, ?_⟩
  case hfp =>
    intro b hb
    rw [Heap.size_push]
    rcases List.mem_cons.mp hb with rfl | hb
    · exact Nat.lt_succ_self _
    · rcases List.mem_cons.mp hb with rfl | hb
      · exact Nat.lt_succ_of_lt hWlt
      · cases hb
  case t =>
    intro C i v s₃ m₃ E' hP hn hm hk htk
    exact wpAny_tests_nil ⟨rfl, s₃.heap, s₃.toks, rfl, fun _ _ e => e⟩
  case e =>
    intro C i v s₃ m₃ E' hP hpv hn hm hk htk
    have G₃ : Gd w mg mb s₃.heap := G₁.keeps fun b o e => hk b o (fun hm' => by
      rcases List.mem_cons.mp hm' with q | hm'
      · exact Nat.lt_irrefl _ (q ▸ Heap.lt_size (F₆.keep b o e))
      · cases hm') (Heap.get?_push_of_some _ (F₆.keep b o e))
    obtain ⟨x, t, rfl, hxo, hxl⟩ := hws v (Array.mem_toList_iff.mpr (Array.mem_of_getElem? hP))
    refine cdef (w := w) G₃.g G₃.marks (by kernel_rfl) (arg1 ?_)
    refine wpAny_Name (wpAny_loadName_local rfl rfl hn hm ?_) (by decide)
    refine ⟨G₃.K, ?_⟩
    refine marks_spec G₃ (by show A.depth + 1 + 1 < _; omega) (by omega) ?_
    intro h' tk t' hk'
    exact ⟨⟨t', rfl⟩, h', tk, rfl, hk'⟩
  intro M₇ h₇ tk₇ zs us _ l₇ _ hul hup hF hk₇
  have k₇ : ∀ b o, h₆.get? b = some o → h₇.get? b = some o := fun b o e => hk₇ b o (fun hm => by
    rcases List.mem_cons.mp hm with q | hm
    · exact Nat.lt_irrefl _ (q ▸ Heap.lt_size e)
    · cases hm) (Heap.get?_push_of_some _ e)
  have hus : us = ws.toList := by
    refine List.ext_getElem? fun j => ?_
    cases e : us[j]? with
    | none =>
      have := List.getElem?_eq_none_iff.mp e
      rw [List.getElem?_eq_none (by rw [Array.length_toList]; omega)]
    | some v => rw [Array.getElem?_toList, hup j v e]
  have hints : IntsAre zs.toList ((ent0 ws.toList).map Ent.m) := by
    have := marks_ints hF
    rw [List.filter_eq_self.mpr (fun _ _ => rfl), hus] at this
    rw [ent0_m]; exact this
  have F₇ := F₆.keeps k₇
  clear hF hup hk₇ F₆
  dsimp only
  refine ⟨G₁.K.keeps F₇.keep, ?_⟩
  have hml : ((ent0 ws.toList).map Ent.m).length = ws.toList.length := by rw [List.length_map, ent0_len]
  refine least_spec (G₁.keeps F₇.keep) (by exact hh) (by show A.depth + 1 + 10 < _; omega) l₇ hints (by rw [hml]; simpa using w3) (by rw [hml]; simpa using w5) ?_
  intro h₈ tk₈ t₈ Lf k₈ hdp
  rw [hml] at hdp ⊢
  have hlast := huffman (by simpa using w3) (by simpa using w5) (by simpa using gr₅) hdp
  rw [← hlast]
  have F₈ := F₇.keeps k₈
  dsimp only
  walk_at "go"
  rw [bne_self_eq_false]
  rw [if_neg Bool.false_ne_true]
  walk_at "go"
  have plW₈ : h₈.PlainList Wd ws := (plW₆.at fun o e => k₇ _ o e).at fun o e => k₈ _ o e
  refine cdef (w := w) (G₁.g.keeps F₈.keep) G₁.due (by kernel_rfl) (arg1 ?_)
  walk_at "ld"
  refine ⟨G₁.K.keeps F₈.keep, ?_⟩
  refine due_spec (G₁.keeps F₈.keep) (by exact hh) (by show A.depth + 1 + 10 < _; omega) (by show A.units + 3 + 30 < _; omega) plW₈.isList w3 w5 hws ?_
  intro h₉ tk₉ tb prs' last' k₉ told₉ gr₉
  obtain ⟨e1, e2⟩ := gr₅.unique gr₉ (.refl _) (by have := ent0_pd ws.toList; simpa using this) (by omega) (by rw [ent0_len, Array.length_toList]; omega)
  subst e1
  subst e2
  obtain ⟨o1, o2⟩ := gr₅.texts fun e he => (ent0_text hws e he).1
  have kk : ∀ b o, h₆.get? b = some o → h₉.get? b = some o := fun b o e => k₉ b o (k₈ b o (k₇ b o e))
  refine told_eq (TK.told told₆ kk) told₉ o1 o2 (by show A.units + 3 + 64 < _; omega) ?_
  dsimp only
  refine h _ (T₆.keeps kk) (fun b o hb e => ?_) B₅ os₅
  exact k₉ b o (F₈.keep b o ((Heap.hide_ne _ hb).trans e))
end
end Mine
end P_Law

/-! Fn -/
section P_Fn
open PySem PySem.W PySem.Calls PyProof.Rows
namespace Mine
theorem hide_some {h : Heap} {a : Addr} {o o' : Obj} (e : h.get? a = some o) (e' : h.get? 38 = some o') (hd : o.data ≠ o'.data) : (h.hide 38).get? a = some o := by
  rw [Heap.hide_ne _ (fun q => by rw [q, e'] at e; cases e; exact hd rfl)]; exact e
theorem hide_ns {h : Heap} {a : Addr} {m : Str → Option Value} {ps : Array Value} (n : h.Ns a m) (e' : h.get? 38 = some { cls := .none, data := .fields ps }) : (h.hide 38).Ns a m := by
  obtain ⟨o, es, ep, e, d, r⟩ := n
  exact ⟨o, es, ep, hide_some e e' (by rw [d]; nofun), d, r⟩
theorem gd_of {w : World} {p : Program} {loose : List Str} {mean : ExcName → Option Value} {mg mb : Str → Option Value} {h : Heap} {ps : Array Value} (T : Top p loose mean mg mb h) (K : (KK w).In h) (h38 : (KK w).lookup 38 = none)
    (e' : h.get? 38 = some { cls := .none, data := .fields ps }) : Gd w mg mb (h.hide 38) := by
  refine ⟨fun a o e => ?_, hide_ns T.g e', hide_ns T.b e', ?_, T.builtins, ?_⟩
  · rw [Heap.hide_ne _ (fun q => by rw [q, h38] at e; cases e)]; exact K a o e
  · obtain ⟨mc, n, z⟩ := T.nolimit; exact ⟨mc, hide_ns n e', z⟩
  · obtain ⟨bm, ob, x⟩ := bmod_of_top T
    exact ⟨bm, ob, hide_ns x.ns e', x.name, x.ne, hide_some x.obj e' (by rw [x.data]; nofun), x.cls, x.dict, x.data⟩
end Mine
theorem PySem.Challenge.cw_mq0147_01_holds : PySem.Challenge.rw_mq0147_01.Holds := by
  refine Mine.hd ?_
  intro w s₀ s₁ mg mb G Y fa o pm cd doc dV kV ho hd hcd hD hmg hg args vals as hpre hlay hrd hwl hlo
  have KX : (Mine.KK w).In s₁.heap := kIn_of Y
  refine Ground.open G ?_
  intro T B D TE TW
  clear hcd hD hd
  have hfa : mg (Str.ofString "law") = some (.ref 132) := mg_of KX T.g (by kernel_rfl)
  have hfa' : some (Value.ref fa) = some (Value.ref 132) := hmg.symm.trans hfa
  cases hfa'
  clear hmg ho B D TE TW
  have h42 := KX 42 _ rfl
  obtain ⟨d, hdf⟩ : ∃ d, (recsOf Mine.hd.view_39).find? (fun e => e.name == Str.ofString "join") = some d := Option.isSome_iff_exists.mp (by kernel_rfl)
  have hdn : d.name = Str.ofString "join" := beq_iff_eq.mp (List.find?_some (p := fun e : DefRec => e.name == Str.ofString "join") hdf)
  obtain ⟨a', o', fd', c, P, q1, q2, q3, q4, q5, q6⟩ := T.tab d (List.mem_of_find?_eq_some hdf)
  rw [hdn, mg_of KX T.g (show _ = some (some (Value.ref 43)) by kernel_rfl)] at q1
  cases q1
  rw [KX 43 _ rfl] at q2
  cases q2
  cases q3
  cases q4
  have hP : P = 38 := by
    obtain ⟨oc, cvs, file, tf, flags, tg, inF, text, tt, op, ho, hdd, h11, _⟩ := id q5
    rw [h42] at ho
    cases ho
    cases hdd
    have : Value.ref 38 = Value.ref P := h11
    cases this; rfl
  subst hP
  wrow_args hpre hlay hrd hwl hlo
  rename_i ns _ _ _ _ _ _ _ Sc vs _ hL _ _ _ hI _ hlen _
  have hT38 := q6.2
  have T0 : Mine.Tb s₁.heap := ⟨#[], q5, q6, .inl rfl⟩
  refine Mine.law_spec (Mine.gd_of T KX (by kernel_rfl) hT38) (fun b o e => Heap.of_hide e) (Heap.hide_self _ _) T0 (.of_eq hg) rfl (by decide) (by decide) hL hI.allInts (by have := hI.length; simp at hlen ⊢; omega) ?_
  intro s' T' k' B' os'
  obtain ⟨ps', _, T2, _⟩ := T'
  refine ⟨.inl ⟨_, .bool true, [], rfl, fun _ => rfl, .bool _, ?post, fun _ => ⟨List.nodup_nil, fun _ h => nomatch h⟩⟩, ?_, os', B'⟩
  case post =>
    refine' postW_of ?zs7 ?zv7 ?ze7
    case zs7 => rfl
    case zv7 => wtm_val
    case ze7 => first | rfl | simp
  refine ⟨fun b o e => ?_, fun b o e => ?_⟩
  · by_cases hb : b = 38
    · subst hb
      rw [hT38] at e; cases e
      exact .inr (.inl ⟨q6.isCodeTable, rfl, #[], ps', rfl, by rw [T2.2]; simp⟩)
    · exact .inl (k' b o hb e)
  · by_cases hb : b = 38
    · exact ⟨_, hb ▸ T2.2⟩
    · exact ⟨o, k' b o hb e⟩
end P_Fn
