import PyProof.Rows.All
import Wide.All
import OpenK.AllK
import Wide.FinOn
import PySem.Challenge.RW_vk0006_01
set_option Elab.async false
section
open PySem PySem.W PyProof.Rows
namespace Mine
set_option maxRecDepth 100000 in
set_option maxHeartbeats 8000000 in
open_top hd for PySem.Challenge.rw_vk0006_01
end Mine
end
section
open PySem PySem.W PyProof.Rows
namespace Mine
set_option maxRecDepth 100000
theorem plainAttrs_pat : PlainAttrs "re.Pattern" :=
  ⟨⟨"object.__getattribute__", by rw [typeLookup_type, builtinLookup_eq_fast]; kernel_rfl, by decide +kernel⟩, by rw [typeLookup_type, builtinLookup_eq_fast]; kernel_rfl⟩
theorem slot_match : Slot "re.Pattern" "match" "re.Pattern.match" :=
  .of (owner := "re.Pattern") (n := "match") (by rw [typeLookup_type, builtinLookup_eq_fast]; kernel_rfl) (by decide +kernel) (by decide +kernel) (by decide +kernel)
    (by first | exact .inl (by decide +kernel) | exact .inr (by decide +kernel)) (by rw [isSubtype_type]; kernel_rfl)
theorem type_match : typeOf (.builtin "re.Pattern.match") = pure (.type "method_descriptor") := by show builtinType _ = _; rw [builtinType_eq_fast]; kernel_rfl
theorem entry_match : entryFor table "re.Pattern.match" = some Builtin.«re.Pattern.match» := entryFor_of_tree (by kernel_rfl)
theorem args_match (a b : Value) : argsOk "re.Pattern.match" ⟨[a, b], []⟩ := by
  unfold argsOk; kernel_rfl
end Mine
end
section
open PySem
namespace Mine
open Sre Sre.M
/-- the pattern's words -/
def patCode : Array Nat := #[14, 4, 0, 1, 4294967295, 6, 0, 13, 5, 22, 97, 122, 0, 24, 16, 0, 4294967295, 13, 11, 9, 0, 67043328, 2147483648, 134217726, 0, 0, 0, 0, 0, 1, 6, 5, 1]
def lowC (c : Nat) : Bool := decide (97 ≤ c) && decide (c ≤ 122)
def wordC (c : Nat) : Bool := lowC c || (decide (48 ≤ c) && decide (c ≤ 57)) || c == 95
theorem runFor_succ (n : Nat) (m : Sre.M) : m.runFor (n + 1) = if m.outcome.isSome then m else m.step.runFor n := rfl
theorem runFor_done (n : Nat) {m : Sre.M} (h : m.outcome.isSome = true) : m.runFor n = m := by
  cases n with
  | zero => rfl
  | succ n => rw [runFor_succ, if_pos h]
theorem runFor_add (a b : Nat) (m : Sre.M) : m.runFor (a + b) = (m.runFor a).runFor b := by
  induction a generalizing m with
  | zero => rw [Nat.zero_add]; rfl
  | succ a ih =>
    rw [Nat.succ_add]
    by_cases h : m.outcome.isSome = true
    · rw [runFor_done _ h, runFor_done _ h, runFor_done _ h]
    · rw [runFor_succ, runFor_succ, if_neg h, if_neg h]; exact ih _
def st (t : Array Nat) (pc pos handed : Nat) (fr : List Sre.Frame) (wt : Nat) (an : Option Bool) (seen : Seen) : Sre.M :=
  { code := patCode, text := t, lim := t.size, start := 0, pc, pos, handed, marks := #[], frames := fr, weight := wt, answer := an, seen }
def fr1 (pos : Nat) (count : Int) : Sre.Frame := { wait := .giveBack, pc := 13, pos, outermost := true, count, kept := {} }
def oc (b : Bool) : Sre.Outcome := if b then .matched else .failed
def Ends (m : Sre.M) (b : Bool) (k : Nat) : Prop := (m.runFor k).outcome = some (oc b)
theorem Ends.step {m : Sre.M} {b : Bool} {k : Nat} (ho : m.outcome = none) (h : Ends m.step b k) : Ends m b (k + 1) := by
  unfold Ends Sre.M.runFor
  rw [ho]
  exact h
theorem Ends.of_eq {m m' : Sre.M} {b : Bool} {k : Nat} (e : m.step = m') (ho : m.outcome = none) (h : Ends m' b k) : Ends m b (k + 1) := Ends.step ho (e ▸ h)
theorem ends_said (t : Array Nat) (pc pos handed wt : Nat) (b : Bool) (seen : Seen) : Ends (st t pc pos handed [] wt (some b) seen) b 1 := by
  cases b <;> rfl
theorem step_at0 (t : Array Nat) (seen : Seen) : (st t 5 0 0 [] 0 none seen).step = st t 7 0 0 [] 0 none ((seen.add 6).add 43) := rfl
theorem acc_low (c : Nat) (seen : Seen) : accepts patCode 7 c seen = .ok (lowC c, if lowC c then seen.add 22 else (seen.add 22).add 0) := by
  show (if lowC c then Except.ok (true, seen.add 22) else Except.ok (false, (seen.add 22).add 0)) = _
  cases lowC c <;> rfl
theorem step_in (t : Array Nat) (seen : Seen) (hn : 0 < t.size) : ∃ seen', (st t 7 0 0 [] 0 none seen).step = if lowC (t.getD 0 0) then st t 13 1 0 [] 0 none seen' else st t 7 0 0 [] 0 (some false) seen' := by
  refine ⟨if lowC (t.getD 0 0) then (seen.add 13).add 22 else ((seen.add 13).add 22).add 0, ?_⟩
  show (if 0 ≥ t.size then _ else match accepts patCode 7 (t.getD 0 0) (seen.add 13) with | .error why => _ | .ok (false, seen) => _ | .ok (true, seen) => _ : Sre.M) = _
  rw [if_neg (by omega), acc_low]
  cases lowC (t.getD 0 0) <;> rfl
/-- how many word signs stand from p on, n at the most -/
def runLen (t : Array Nat) : Nat → Nat → Nat
  | 0, _ => 0
  | n + 1, p => if wordC (t.getD p 0) then runLen t n (p + 1) + 1 else 0
theorem bits_word : ∀ c, c < 256 → (patCode.getD (19 + (1 + c / 32)) 0).testBit (c % 32) = wordC c := by decide +kernel
theorem acc_word (c : Nat) (seen : Seen) : ∃ seen', accepts patCode 17 c seen = .ok (wordC c, seen') := by
  have e : accepts patCode 17 c seen = if (decide (c < 256) && (patCode.getD (19 + (1 + c / 32)) 0).testBit (c % 32)) = true then .ok (true, seen.add 9) else .ok (false, (seen.add 9).add 0) := rfl
  rw [e]
  by_cases h : c < 256
  · rw [bits_word c h, decide_eq_true h, Bool.true_and]
    cases wordC c
    · exact ⟨_, rfl⟩
    · exact ⟨_, rfl⟩
  · have hw : wordC c = false := by
      unfold wordC lowC
      have h1 : ¬ c ≤ 122 := by omega
      have h2 : ¬ c ≤ 57 := by omega
      have h3 : ¬ c = 95 := by omega
      simp [h1, h2, h3]
    rw [decide_eq_false h, hw]
    exact ⟨_, rfl⟩
theorem run_word (t : Array Nat) : ∀ (n p found : Nat) (seen : Seen), ∃ seen', Sre.run patCode t 17 n p found seen = .ok (found + runLen t n p, seen')
  | 0, _, _, seen => ⟨seen, rfl⟩
  | n + 1, p, found, seen => by
    obtain ⟨s1, h1⟩ := acc_word (t.getD p 0) seen
    unfold Sre.run
    rw [h1]
    unfold runLen
    cases hw : wordC (t.getD p 0) with
    | false => exact ⟨s1, rfl⟩
    | true =>
      obtain ⟨s2, h2⟩ := run_word t n (p + 1) (found + 1) s1
      refine ⟨s2, ?_⟩
      show Sre.run patCode t 17 n (p + 1) (found + 1) s1 = _
      rw [h2]
      show Except.ok (found + 1 + _, s2) = Except.ok (found + (_ + 1), s2)
      rw [show found + 1 + runLen t n (p + 1) = found + (runLen t n (p + 1) + 1) from by omega]
theorem step_rep (t : Array Nat) (seen : Seen) (hn : 1 ≤ t.size) (hb : t.size < 4294967295) : ∃ seen', (st t 13 1 0 [] 0 none seen).step = st t 30 (1 + runLen t (t.size - 1) 1) (1 + runLen t (t.size - 1) 1) [fr1 (1 + runLen t (t.size - 1) 1) (runLen t (t.size - 1) 1)] 1 none seen' := by
  obtain ⟨s1, h1⟩ := run_word t (t.size - 1) 1 0 ((seen.add 24).add 13)
  refine ⟨s1, ?_⟩
  have e0 : min 4294967295 (((t.size : Int) - (1 : Nat)).toNat) = t.size - 1 := by omega
  have e : (st t 13 1 0 [] 0 none seen).step = if ((0 : Nat) : Int) > (t.size : Int) - (1 : Nat) then (st t 13 1 0 [] 0 none (seen.add 24)).say false else
    match Sre.run patCode t 17 (min 4294967295 (((t.size : Int) - (1 : Nat)).toNat)) 1 0 ((seen.add 24).add 13) with
    | .error why => (st t 13 1 0 [] 0 none (seen.add 24)).stick why
    | .ok (n, seen) => if n < 0 then (st t 13 1 0 [] 0 none seen).say false else (st t 13 (1 + n) 0 [] 0 none seen).afterRun .giveBack n {} := rfl
  rw [e, if_neg (by omega), e0, h1]
  show (if 0 + runLen t (t.size - 1) 1 < 0 then _ else (st t 13 (1 + (0 + runLen t (t.size - 1) 1)) 0 [] 0 none s1).afterRun .giveBack ((0 + runLen t (t.size - 1) 1 : Nat) : Int) {} : Sre.M) = _
  rw [if_neg (by omega), Nat.zero_add]
  rfl
def atEnd (t : Array Nat) (p : Nat) : Bool := p == t.size || (p + 1 == t.size && t.getD p 0 == 10)
theorem step_end (t : Array Nat) (p h : Nat) (fr : List Sre.Frame) (wt : Nat) (seen : Seen) : ∃ seen', (st t 30 p h fr wt none seen).step = if atEnd t p then st t 32 p h fr wt none seen' else st t 30 p h fr wt (some false) seen' := by
  refine ⟨(seen.add 6).add 48, ?_⟩
  show (if atEnd t p = true then _ else _ : Sre.M) = _
  cases atEnd t p <;> rfl
theorem step_succ (t : Array Nat) (p h : Nat) (fr : List Sre.Frame) (wt : Nat) (seen : Seen) : (st t 32 p h fr wt none seen).step = st t 32 p p fr wt (some true) (seen.add 1) := rfl
theorem step_yes (t : Array Nat) (pc p h q : Nat) (c : Int) (seen : Seen) : (st t pc p h [fr1 q c] 1 (some true) seen).step = st t 13 q h [] 0 (some true) seen := rfl
theorem step_no0 (t : Array Nat) (pc p h q : Nat) (seen : Seen) : (st t pc p h [fr1 q 0] 1 (some false) seen).step = st t 13 q h [] 0 (some false) seen := rfl
theorem step_no (t : Array Nat) (pc p h q c : Nat) (seen : Seen) : (st t pc p h [fr1 q ((c + 1 : Nat) : Int)] 1 (some false) seen).step = st t 30 (q - 1) (q - 1) [fr1 (q - 1) c] 1 none seen := by
  show (if ((c + 1 : Nat) : Int) - 1 < ((0 : Nat) : Int) then _ else (st t 13 (q - 1) h [] 0 none seen).afterRun .giveBack (((c + 1 : Nat) : Int) - 1) {} : Sre.M) = _
  rw [if_neg (by omega), show ((c + 1 : Nat) : Int) - 1 = (c : Int) from by omega]
  rfl
theorem ends_back (t : Array Nat) : ∀ (c q h : Nat) (seen : Seen), (∀ i, i ≤ c → atEnd t (q - i) = false) → Ends (st t 30 q h [fr1 q c] 1 none seen) false (2 * c + 3)
  | 0, q, h, seen, ha => by
    obtain ⟨s1, h1⟩ := step_end t q h [fr1 q 0] 1 seen
    have h0 := ha 0 (Nat.le_refl _)
    rw [Nat.sub_zero] at h0
    rw [h0, if_neg Bool.false_ne_true] at h1
    exact Ends.of_eq h1 rfl (Ends.of_eq (step_no0 ..) rfl (ends_said ..))
  | c + 1, q, h, seen, ha => by
    obtain ⟨s1, h1⟩ := step_end t q h [fr1 q ((c + 1 : Nat) : Int)] 1 seen
    have h0 := ha 0 (Nat.zero_le _)
    rw [Nat.sub_zero] at h0
    rw [h0, if_neg Bool.false_ne_true] at h1
    have ih := ends_back t c (q - 1) (q - 1) s1 (fun i hi => by rw [Nat.sub_sub, Nat.add_comm]; exact ha (i + 1) (by omega))
    exact Ends.of_eq h1 rfl (Ends.of_eq (step_no ..) rfl ih)
theorem ends_yes (t : Array Nat) (q h : Nat) (c : Int) (seen : Seen) (ha : atEnd t q = true) : Ends (st t 30 q h [fr1 q c] 1 none seen) true 4 := by
  obtain ⟨s1, h1⟩ := step_end t q h [fr1 q c] 1 seen
  rw [ha, if_pos rfl] at h1
  exact Ends.of_eq h1 rfl (Ends.of_eq (step_succ ..) rfl (Ends.of_eq (step_yes ..) rfl (ends_said ..)))
theorem runLen_le (t : Array Nat) : ∀ n p, runLen t n p ≤ n
  | 0, _ => Nat.le_refl _
  | n + 1, p => by
    have := runLen_le t n (p + 1)
    unfold runLen
    split <;> omega
/-- the whole text is a small letter and word signs -/
def reOk (t : Array Nat) : Bool := decide (0 < t.size) && lowC (t.getD 0 0) && decide (runLen t (t.size - 1) 1 = t.size - 1)
theorem Ends.more {m : Sre.M} {b : Bool} {k : Nat} (h : Ends m b k) (j : Nat) (hj : k ≤ j) : Ends m b j := by
  unfold Ends at h ⊢
  rw [show j = k + (j - k) from by omega, runFor_add, runFor_done _ (by rw [h]; rfl)]
  exact h
theorem match_ends (t : Array Nat) (hb : t.size < 4294967295) (hnl : ∀ i, t.getD i 0 ≠ 10) : Ends (forMatch patCode t 0 0 t.size false false) (reOk t) (2 * t.size + 20) := by
  by_cases hn : 0 < t.size
  · have e : forMatch patCode t 0 0 t.size false false = st t 5 0 0 [] 0 none (({} : Seen).add 14) := by
      show (if ((1 != 0) && decide (0 ≤ t.size) && decide (t.size - 0 < 1)) = true then _ else st t 5 0 0 [] 0 none (({} : Seen).add 14) : Sre.M) = _
      rw [if_neg (by rw [decide_eq_false (show ¬ t.size - 0 < 1 by omega), Bool.and_false]; exact Bool.false_ne_true)]
    rw [e]
    have hat : ∀ p, atEnd t p = decide (p = t.size) := by
      intro p
      unfold atEnd
      have : (t.getD p 0 == 10) = false := by simpa using hnl p
      rw [this, Bool.and_false, Bool.or_false]
      by_cases h : p = t.size
      · rw [h]; simp
      · simp [h]
    obtain ⟨s1, h1⟩ := step_in t ((({} : Seen).add 14).add 6 |>.add 43) hn
    by_cases hl : lowC (t.getD 0 0) = true
    · rw [hl, if_pos rfl] at h1
      obtain ⟨s2, h2⟩ := step_rep t s1 hn hb
      have hle := runLen_le t (t.size - 1) 1
      by_cases hr : runLen t (t.size - 1) 1 = t.size - 1
      · have hv : reOk t = true := by unfold reOk; rw [hl, hr]; simp [hn]
        rw [hv]
        refine Ends.more (Ends.of_eq (step_at0 ..) rfl (Ends.of_eq h1 rfl (Ends.of_eq h2 rfl (ends_yes t _ _ _ _ ?_)))) _ (by omega)
        rw [hat]; exact decide_eq_true (by omega)
      · have hv : reOk t = false := by unfold reOk; rw [decide_eq_false hr, Bool.and_false]
        rw [hv]
        refine Ends.more (Ends.of_eq (step_at0 ..) rfl (Ends.of_eq h1 rfl (Ends.of_eq h2 rfl (ends_back t _ _ _ _ ?_)))) _ (by omega)
        intro i hi
        rw [hat]; exact decide_eq_false (by omega)
    · rw [if_neg hl] at h1
      have hv : reOk t = false := by unfold reOk; rw [Bool.not_eq_true] at hl; rw [hl, Bool.and_false, Bool.false_and]
      rw [hv]
      exact Ends.more (Ends.of_eq (step_at0 ..) rfl (Ends.of_eq h1 rfl (ends_said ..))) _ (by omega)
  · have hv : reOk t = false := by unfold reOk; rw [decide_eq_false hn, Bool.false_and, Bool.false_and]
    rw [hv]
    have e : forMatch patCode t 0 0 t.size false false = st t 5 0 0 [] 0 (some false) (({} : Seen).add 14) := by
      show (if ((1 != 0) && decide (0 ≤ t.size) && decide (t.size - 0 < 1)) = true then st t 5 0 0 [] 0 (some false) (({} : Seen).add 14) else _ : Sre.M) = _
      rw [if_pos (by rw [decide_eq_true (show t.size - 0 < 1 by omega), decide_eq_true (Nat.zero_le t.size)]; rfl)]
    rw [e]
    exact Ends.more (ends_said ..) _ (by omega)
end Mine
end
section
open PySem PySem.W PyProof.Rows
set_option maxRecDepth 100000
namespace Mine
noncomputable abbrev lawProg : Program := PySem.Challenge.rw_vk0006_01.row.prog
noncomputable abbrev lawLoose : List Str := looseW hd.view_39 [Str.ofString "valid_cql3_word_re"]
/-- what a def of the text answers, whoever calls it: of the objects at hand only those of `news` may change -/
def Says (D : Nat) (w : World) (mean : ExcName → Option Value) (mg mb : Str → Option Value) (f : Addr) (vs : List Value) (news : List (Addr × Obj)) (Post : Heap → Value → Heap → Prop) : Prop :=
  ∀ (dp un : Nat) (gd : Option (List Code)) (cn : Str) (cs : Scope) (a : Addr) (ccd : Value) (cl : List (Str × Addr)) (outer : List Env) (A₀ : Around) (base h₀ : Heap) (L : Addr) (m : Str → Option Value) (s : Shared) (Q E : Value → Shared → Prop),
    Below A₀ base outer h₀ → Fr h₀ L s.heap m → (hd.heap_39 w.params).In h₀ → News h₀ L s.heap news → Top hd.view_39 lawLoose mean mg mb h₀ → cs.kind = .function → dp + D < recursionLimit → un + 40 * D < cLine →
    (∀ v h' tk', GSub s.heap h' (news.map (·.1)) → Post s.heap v h' → Q v { s with heap := h', toks := tk' }) →
    wpAny (model lawProg w) (ktrTop dp un gd cn cs L a ccd cl outer) (call (.ref f) vs) Q E s
theorem says_use {D : Nat} {w : World} {mean : ExcName → Option Value} {mg mb : Str → Option Value} {f : Addr} {vs : List Value} {news : List (Addr × Obj)} {Post : Heap → Value → Heap → Prop} (S : Says D w mean mg mb f vs news Post)
    {dp un : Nat} {gd : Option (List Code)} {cn : Str} {cs : Scope} {a : Addr} {ccd : Value} {cl : List (Str × Addr)} {outer : List Env} {A₀ : Around} {base h₀ : Heap} {L : Addr} {m : Str → Option Value} {s : Shared} {Q E : Value → Shared → Prop}
    (B : Below A₀ base outer h₀) (F : Fr h₀ L s.heap m) (X : (hd.heap_39 w.params).In h₀) (N : News h₀ L s.heap news) (T : Top hd.view_39 lawLoose mean mg mb h₀) (hk : cs.kind = .function) (hd : dp + D < recursionLimit) (hu : un + 40 * D < cLine)
    (ret : ∀ v h' tk', GSub s.heap h' (news.map (·.1)) → Post s.heap v h' → Q v { s with heap := h', toks := tk' }) :
    wpAny (model lawProg w) (ktrTop dp un gd cn cs L a ccd cl outer) (call (.ref f) vs) Q E s :=
  S _ _ _ _ _ _ _ _ _ _ _ _ _ _ _ _ _ B F X N T hk hd hu ret
/-- a def that changes nothing -/
theorem says_pure {D : Nat} {w : World} {mean : ExcName → Option Value} {mg mb : Str → Option Value} {f : Addr} {vs : List Value} {Post : Heap → Value → Heap → Prop} (S : Says D w mean mg mb f vs [] Post)
    {dp un : Nat} {gd : Option (List Code)} {cn : Str} {cs : Scope} {a : Addr} {ccd : Value} {cl : List (Str × Addr)} {outer : List Env} {A₀ : Around} {base h₀ : Heap} {L : Addr} {m : Str → Option Value} {s : Shared} {Q E : Value → Shared → Prop}
    (B : Below A₀ base outer h₀) (F : Fr h₀ L s.heap m) (X : (hd.heap_39 w.params).In h₀) (T : Top hd.view_39 lawLoose mean mg mb h₀) (hk : cs.kind = .function) (hd : dp + D < recursionLimit) (hu : un + 40 * D < cLine)
    (ret : ∀ v h' tk', (∀ b o, s.heap.get? b = some o → h'.get? b = some o) → Post s.heap v h' → Q v { s with heap := h', toks := tk' }) :
    wpAny (model lawProg w) (ktrTop dp un gd cn cs L a ccd cl outer) (call (.ref f) vs) Q E s :=
  S _ _ _ _ _ _ _ _ _ _ _ _ _ _ _ _ _ B F X News.nil T hk hd hu fun v h' tk' g p => ret v h' tk' (fun b o e => g b o e (fun hm => nomatch hm)) p
theorem gsub_end {H g h' : Heap} {L' : Addr} {m' : Str → Option Value} {adr : List Addr} (G : GSub H g adr) (F' : Fr g L' h' m') : GSub H h' adr := fun b o e hb => F'.keep b o (G b o e hb)
theorem inElt_trans {s₂ H h' : Heap} (E : InElt s₂ H) (k : ∀ b o, H.get? b = some o → h'.get? b = some o) : InElt s₂ h' := fun b o e => k b o (E b o e)
/-- a name that the law may build: short, without line ends -/
structure NmOk (nm : Str) : Prop where
  len : nm.length ≤ 1000
  nl : ∀ i, nm.cps.getD i 0 ≠ 10
  ok : PyData.strOk nm = true
abbrev listO (vs : List Value) (n : Nat) : Obj := { cls := .type "list", data := .seq vs.toArray n }
/-- for `k_fill`: the row and its heap in one goal -/
def Fill : Prop := PySem.Challenge.rw_vk0006_01 = PySem.Challenge.rw_vk0006_01 ∧ hd.heap_39 = hd.heap_39
end Mine
end
section
open PySem PySem.W PyProof.Rows
set_option maxRecDepth 100000
namespace Mine
-- the entry of a def's call, the objects at hand kept in sight
local macro_rules | `(tactic| walk_at "enter") => `(tactic| (refine wpAny_call ?_; k_dflt ((refine' code_defG ?k1 ?k2 ?k3 ?k4 ?k5 ?kA ?kF ?kK ?k6 ?k7 ?k8 ?k9 ?kB ?_ ?c2 ?c3 ?c4 ?c5); (case kA => exact rfl); (case kF => exact rfl); (case kK => assumption); (case k1 => k_asm); (case k2 => k_asm); (case k3 => k_asm); (case k4 => k_asm); (case k5 => k_asm); (case k6 => k_is); (case k7 => k_is); (case k8 => ktr_room); (case k9 => exact BindsTo.of_eq rfl); (case c5 => decide); (case kB => exact locs rfl); (case c2 => exact rfl); (case c3 => exact rfl); (case c4 => exact rfl); k_whole; intro g' L' h' FG' F' N' B' X' T' kG'; (try dsimp only); (try k_lift B'); (try k_fold))))
abbrev dblT (nm : Str) (q : String) : Str := Txt.replace nm (Str.ofString q) (Str.ofString (q ++ q))
theorem dbl_length (c : Nat) : ∀ l : List Nat, (StrLaws.dbl c l).length ≤ 2 * l.length
  | [] => Nat.le_refl _
  | k :: r => by
    have ih := dbl_length c r
    unfold StrLaws.dbl
    split <;> simp only [List.length_cons] <;> omega
theorem len_dq (nm : Str) : (Txt.replace nm (Str.ofString "\"") (Str.ofString "\"\"")).length ≤ 2 * nm.length := by
  have h := StrLaws.replace_double nm 34
  have e : Str.ofString "\"" = ⟨#[34]⟩ := by decide +kernel
  have e2 : Str.ofString "\"\"" = ⟨#[34, 34]⟩ := by decide +kernel
  rw [e, e2]
  have := congrArg List.length h
  rw [Array.length_toList] at this
  unfold Str.length
  rw [this]
  exact dbl_length _ _
set_option maxHeartbeats 8000000 in
theorem c_escape (w : World) (mean : ExcName → Option Value) (mg mb : Str → Option Value) (nm : Str) (t : Tok) (hn : nm.length ≤ 1000) :
    Says 1 w mean mg mb 77 [.str nm t] [] (fun _ v _ => ∃ t', v = .str (Str.empty ++ Str.ofString "\"" ++ Txt.replace nm (Str.ofString "\"") (Str.ofString "\"\"") ++ Str.ofString "\"") t') := by
  have kf : Fill := by unfold Fill; k_fill; exact ⟨rfl, rfl⟩
  unfold Says
  clear kf
  intro dp un gd cn cs a ccd cl outer A₀ base h₀ L m s Q E B F X N T hk hdd hu hret
  have hlen := len_dq nm
  have hlen2 : (Txt.replace nm (Str.ofString "\"") (Str.ofString "\"\"")).length ≤ 2000 := by omega
  walk_at "enter"
  k_steps
  exact hret _ _ _ (gsub_end (by assumption) (by assumption)) ⟨_, rfl⟩
end Mine
end
section
open PySem PySem.W PyProof.Rows
set_option maxRecDepth 100000
namespace Mine
open Builtin Builtin.Re
section
variable {M : Model} {A : Around} {E : Value → Shared → Prop} {s : Shared}
theorem drive : ∀ (k turns : Nat) (m : Sre.M) {Q : Sre.M → Shared → Prop}, k < turns → (m.runFor (4 * k)).outcome.isSome = true → Q (m.runFor (4 * k)) s → wpAny M A (reDrive turns m) Q E s
  | k, 0, _, _, h, _, _ => absurd h (Nat.not_lt_zero _)
  | k, t + 1, m, Q, h, ho, hq => by
    show wpAny M A (if (m.runFor 4).outcome.isSome = true then pure (m.runFor 4) else (do rule "sre.turn"; reDrive t (m.runFor 4))) Q E s
    cases k with
    | zero =>
      have e : m.runFor 4 = m := runFor_done 4 (show m.outcome.isSome = true from ho)
      rw [e, if_pos (show m.outcome.isSome = true from ho)]
      exact wpAny_pure hq
    | succ k =>
      rw [show 4 * (k + 1) = 4 + 4 * k from by omega, runFor_add] at ho hq
      by_cases h4 : (m.runFor 4).outcome.isSome = true
      · rw [if_pos h4]
        rw [runFor_done _ h4] at hq
        exact wpAny_pure hq
      · rw [if_neg h4]
        exact wpAny_bind (wpAny_rule (drive k t _ (by omega) ho hq))
theorem forIn_rules {α : Type} (f : α → PUnit → Sem (ForInStep PUnit)) (hf : ∀ i u (Q : ForInStep PUnit → Shared → Prop) s, Q (.yield ⟨⟩) s → wpAny M A (f i u) Q E s) {Q : PUnit → Shared → Prop} :
    ∀ (l : List α), Q ⟨⟩ s → wpAny M A (forIn l ⟨⟩ f) Q E s
  | [], h => wpAny_pure h
  | i :: r, h => by
    rw [List.forIn_cons]
    exact wpAny_bind (hf _ _ _ _ (forIn_rules f hf r h))
theorem runToEnd (m : Sre.M) (b : Bool) (k : Nat) {Q : Option Sre.M → Shared → Prop} (hk : k < 1000000) (h : Ends m b k) (hy : b = true → ∀ m', Q (some m') s) (hn : b = false → Q none s) :
    wpAny M A (reRunToEnd m) Q E s := by
  have h' : Ends m b (4 * k) := h.more _ (by omega)
  unfold reRunToEnd
  refine wpAny_bind (drive k _ m (by omega) (by rw [h']; rfl) ?_)
  refine wpAny_bind (forIn_rules _ (fun i u Q s hq => ?_) _ ?_)
  · split
    · exact wpAny_bind (wpAny_rule (wpAny_pure hq))
    · exact wpAny_pure hq
  · rw [show (m.runFor (4 * k)).outcome = _ from h']
    cases b with
    | true => exact wpAny_pure (hy rfl _)
    | false => exact wpAny_pure (hn rfl)
end
theorem named_ok (v : Value) : reNamed "re.Pattern.match" "match" ["string", "pos", "endpos"] 1 [v] [] = pure [some v, none, none] := by rfl
section
variable {prog : Program} {w : World} {A : Around} {E : Value → Shared → Prop} {s : Shared}
variable {h₀ : Heap} {L : Addr} {m : Str → Option Value} {news : List (Addr × Obj)}
theorem call_match {p c : Addr} {nm : Str} {t : Tok} {po co : Obj} {v0 v1 v3 v4 : Value} {t1 : Tok} {cv : Array Value} {n : Nat} {Q : Value → Shared → Prop} (F : Fr h₀ L s.heap m) (N : News h₀ L s.heap news)
    (hp : s.heap.get? p = some po) (hpc : po.cls = .type "re.Pattern") (hpd : po.data = .fields #[v0, v1, .int 0 t1, v3, v4, .ref c, .int 0 0])
    (hc : s.heap.get? c = some co) (hcd : co.data = .seq cv n) (hcv : (cv.map reRawOf).map (·.toNat) = patCode)
    (hb : nm.length ≤ 10000) (hnl : ∀ i, nm.cps.getD i 0 ≠ 10)
    (hy : reOk nm.cps = true → ∀ a h', Fr h₀ L h' m → News h₀ L h' news → Q (.ref a) { s with heap := h' }) (hn : reOk nm.cps = false → Q .none s) :
    wpAny (model prog w) A (call (.builtin "re.Pattern.match") [.ref p, .str nm t]) Q E s := by
  refine wpAny_call_entry slot_match ⟨po, hp, hpc⟩ entry_match ?_ (args_match _ _)
  unfold Builtin.«re.Pattern.match»
  refine wpAny_bind ?_
  unfold reTarget
  dsimp only
  rw [named_ok]
  refine wpAny_bind (wpAny_pure ?_)
  dsimp only
  refine wpAny_bind (wpAny_pure (wpAny_bind (wpAny_pure (wpAny_bind (wpAny_fieldsOf hp hpd ?_)))))
  refine wpAny_bind (wpAny_pure ?_)
  rw [show (reRawNat (#[v0, v1, Value.int 0 t1, v3, v4, Value.ref c, Value.int 0 0].getD 6 Value.none) == 0 && (nm.cps, 0).snd == 1) = false from rfl,
    show (reRawNat (#[v0, v1, Value.int 0 t1, v3, v4, Value.ref c, Value.int 0 0].getD 6 Value.none) == 1 && (nm.cps, 0).snd == 0) = false from rfl,
    if_neg Bool.false_ne_true, if_neg Bool.false_ne_true]
  refine wpAny_bind (wpAny_pure (wpAny_bind ?_))
  show wpAny _ _ (reRawItems (.ref c)) _ _ _
  unfold reRawItems
  refine wpAny_bind (wpAny_seqItems hc hcd (wpAny_pure (wpAny_pure ?_)))
  show wpAny _ _ (reAnswer { pattern := Value.ref p, string := Value.str nm t, code := (cv.map reRawOf).map (·.toNat), text := nm.cps, kind := 0, groups := 0, pos := min (Int.toNat 0) nm.cps.size, lim := min (2 ^ 63 - 1 : Int).toNat nm.cps.size }
    (Sre.forMatch ((cv.map reRawOf).map (·.toNat)) nm.cps 0 (min (Int.toNat 0) nm.cps.size) (min (2 ^ 63 - 1 : Int).toNat nm.cps.size) false false)) _ _ _
  have hs : nm.cps.size ≤ 10000 := hb
  rw [hcv, show min (Int.toNat 0) nm.cps.size = 0 from by omega, show min (2 ^ 63 - 1 : Int).toNat nm.cps.size = nm.cps.size from by omega]
  unfold reAnswer
  refine wpAny_bind (runToEnd _ (reOk nm.cps) (2 * nm.cps.size + 20) (by omega) (match_ends nm.cps (by omega) hnl) (fun hb m' => ?_) fun hb => ?_)
  · dsimp only
    refine wpAny_bind ?_
    unfold reNewMatch
    dsimp only
    show wpAny _ _ (newTuple _ >>= fun x => newFields _ _) _ _ _
    refine wpAny_bind (newTuple_N F N (fun h' F' N' => ?_) (show 2 ≤ sizeLine by rw [sizeLine_eq]; omega))
    unfold newFields
    refine wpAny_newObj_type ?_
    refine wpAny_pure ⟨_, rfl, hy hb _ _ (Fr.push F' _) ?_⟩
    exact fun q hq => (News.push F' N' _) q (.tail _ (.tail _ hq))
  · exact wpAny_pure ⟨_, rfl, hn hb⟩
end
end Mine
end
section
open PySem PySem.W PyProof.Rows
set_option maxRecDepth 100000
namespace Mine
-- the entry of a def's call, the objects at hand kept in sight
local macro_rules | `(tactic| walk_at "enter") => `(tactic| (refine wpAny_call ?_; k_dflt ((refine' code_defG ?k1 ?k2 ?k3 ?k4 ?k5 ?kA ?kF ?kK ?k6 ?k7 ?k8 ?k9 ?kB ?_ ?c2 ?c3 ?c4 ?c5); (case kA => exact rfl); (case kF => exact rfl); (case kK => assumption); (case k1 => k_asm); (case k2 => k_asm); (case k3 => k_asm); (case k4 => k_asm); (case k5 => k_asm); (case k6 => k_is); (case k7 => k_is); (case k8 => ktr_room); (case k9 => exact BindsTo.of_eq rfl); (case c5 => decide); (case kB => exact locs rfl); (case c2 => exact rfl); (case c3 => exact rfl); (case c4 => exact rfl); k_whole; intro g' L' h' FG' F' N' B' X' T' kG'; (try dsimp only); (try k_lift B'); (try k_fold))))
def resL : List Str := [Str.ofString "add", Str.ofString "allow", Str.ofString "alter", Str.ofString "and", Str.ofString "apply", Str.ofString "asc", Str.ofString "authorize", Str.ofString "batch", Str.ofString "begin", Str.ofString "by", Str.ofString "columnfamily", Str.ofString "create", Str.ofString "default", Str.ofString "delete", Str.ofString "desc", Str.ofString "describe", Str.ofString "drop", Str.ofString "entries", Str.ofString "execute", Str.ofString "from", Str.ofString "full", Str.ofString "grant", Str.ofString "if", Str.ofString "in", Str.ofString "index", Str.ofString "infinity", Str.ofString "insert", Str.ofString "into", Str.ofString "is", Str.ofString "keyspace", Str.ofString "limit", Str.ofString "materialized", Str.ofString "mbean", Str.ofString "mbeans", Str.ofString "modify", Str.ofString "nan", Str.ofString "norecursive", Str.ofString "not", Str.ofString "null", Str.ofString "of", Str.ofString "on", Str.ofString "or", Str.ofString "order", Str.ofString "primary", Str.ofString "rename", Str.ofString "replace", Str.ofString "revoke", Str.ofString "select", Str.ofString "set", Str.ofString "table", Str.ofString "to", Str.ofString "truncate", Str.ofString "unlogged", Str.ofString "unset", Str.ofString "update", Str.ofString "use", Str.ofString "using", Str.ofString "view", Str.ofString "where", Str.ofString "with", Str.ofString "node", Str.ofString "nodes", Str.ofString "plan", Str.ofString "active", Str.ofString "application", Str.ofString "applications", Str.ofString "java", Str.ofString "executor", Str.ofString "executors", Str.ofString "std_out", Str.ofString "std_err", Str.ofString "renew", Str.ofString "delegation", Str.ofString "no", Str.ofString "redact", Str.ofString "token", Str.ofString "lowercasestring", Str.ofString "cluster", Str.ofString "authentication", Str.ofString "schemes", Str.ofString "scheme", Str.ofString "internal", Str.ofString "ldap", Str.ofString "kerberos", Str.ofString "remote", Str.ofString "object", Str.ofString "method", Str.ofString "call", Str.ofString "calls", Str.ofString "search", Str.ofString "schema", Str.ofString "config", Str.ofString "rows", Str.ofString "columns", Str.ofString "profiles", Str.ofString "commit", Str.ofString "reload", Str.ofString "rebuild", Str.ofString "field", Str.ofString "workpool", Str.ofString "any", Str.ofString "submission", Str.ofString "indices", Str.ofString "restrict", Str.ofString "unrestrict"]
set_option maxHeartbeats 4000000 in
theorem res_tup {w : World} {h : Heap} (X : (hd.heap_39 w.params).In h) : ∃ items, IsTup h 32 items ∧ StrsAre items.toList resL := by
  have kf : Fill := by unfold Fill; k_fill; exact ⟨rfl, rfl⟩
  refine ⟨_, ⟨_, X 32 _ (by k_is), rfl, _, rfl⟩, ?_⟩
  unfold resL
  repeat (first | exact StrsAre.nil | refine StrsAre.cons _ _ ?_)
def validB (nm : Str) : Bool := !(resL.any (· == Txt.lower nm)) && reOk nm.cps
theorem in_res {w : World} {A : Around} {E : Value → Shared → Prop} {s : Shared} {x : Str} {u : Tok} {Q : Value → Shared → Prop} (X : (hd.heap_39 w.params).In s.heap) (h : Q (.bool (resL.any (· == x))) s) :
    wpAny (model lawProg w) A (compareOp .In (.str x u) (.ref 32)) Q E s := by
  obtain ⟨items, h1, h2⟩ := res_tup X
  exact in_tuple_strs h1 h2 h
theorem get_match {w : World} {A : Around} {E : Value → Shared → Prop} {s : Shared} {pl : Sem Bool} {Q : Value × List Value → Shared → Prop} (X : (hd.heap_39 w.params).In s.heap) (h : Q (.builtin "re.Pattern.match", [.ref 56]) s) :
    wpAny (model lawProg w) A (getMethod (.ref 56) "match" pl) Q E s := by
  have kf : Fill := by unfold Fill; k_fill; exact ⟨rfl, rfl⟩
  refine getMethod_builtin (T := "re.Pattern") ⟨_, X 56 _ (by k_is), rfl⟩ plainAttrs_pat slot_match type_match ?_ h
  intro a e
  cases e
  exact ⟨_, X 56 _ (by k_is), rfl⟩
theorem call_pat {w : World} {A : Around} {E : Value → Shared → Prop} {s : Shared} {h₀ : Heap} {L : Addr} {m : Str → Option Value} {news : List (Addr × Obj)} {nm : Str} {t : Tok} {Q : Value → Shared → Prop} (F : Fr h₀ L s.heap m) (N : News h₀ L s.heap news)
    (X : (hd.heap_39 w.params).In s.heap) (hb : nm.length ≤ 10000) (hnl : ∀ i, nm.cps.getD i 0 ≠ 10)
    (h : ∀ v h', (v = .none ∧ reOk nm.cps = false ∨ (∃ a, v = .ref a) ∧ reOk nm.cps = true) → Fr h₀ L h' m → News h₀ L h' news → Q v { s with heap := h' }) :
    wpAny (model lawProg w) A (call (.builtin "re.Pattern.match") [.ref 56, .str nm t]) Q E s := by
  have kf : Fill := by unfold Fill; k_fill; exact ⟨rfl, rfl⟩
  refine call_match F N (X 56 _ (by k_is)) rfl rfl (X 55 _ (by k_is)) rfl (by decide +kernel) hb hnl (fun hy a h' F' N' => h _ _ (.inr ⟨⟨a, rfl⟩, hy⟩) F' N') fun hn => h _ _ (.inl ⟨rfl, hn⟩) F N
local macro_rules | `(tactic| walk_at "compareOp In str ref") => `(tactic| ((with_reducible show wpAny _ _ (compareOp CmpOp.In (Value.str _ _) (Value.ref 32)) _ _ _); refine in_res (by k_in) ?_))
local macro_rules | `(tactic| walk_at "getMethod ref") => `(tactic| ((with_reducible show wpAny _ _ (getMethod (Value.ref 56) _ _) _ _ _); refine get_match (by k_in) ?_))
local macro_rules | `(tactic| walk_at "call builtin:re.Pattern.match") => `(tactic| ((refine call_pat (by k_asm) (by k_asm) (by k_in) (by omega) (by assumption) ?_); intro v' h' hv' F' N'; rcases hv' with ⟨hv1, hr⟩ | ⟨⟨a', hv1⟩, hr⟩ <;> subst hv1))
set_option maxHeartbeats 8000000 in
theorem c_valid (w : World) (mean : ExcName → Option Value) (mg mb : Str → Option Value) (nm : Str) (t : Tok) (hn : NmOk nm) :
    Says 1 w mean mg mb 63 [.str nm t] [] (fun _ v _ => v = .bool (validB nm)) := by
  have kf : Fill := by unfold Fill; k_fill; exact ⟨rfl, rfl⟩
  unfold Says
  clear kf
  intro dp un gd cn cs a ccd cl outer A₀ base h₀ L m s Q E B F X N T hk hdd hu hret
  obtain ⟨hn, hnl, _⟩ := hn
  walk_at "enter"
  k_steps
  all_goals exact hret _ _ _ (gsub_end (by assumption) (by assumption)) (congrArg Value.bool (by simp only [validB, *]; rfl))
set_option maxHeartbeats 8000000 in
theorem c_valid_none (w : World) (mean : ExcName → Option Value) (mg mb : Str → Option Value) :
    Says 1 w mean mg mb 63 [.none] [] (fun _ v _ => v = .bool false) := by
  have kf : Fill := by unfold Fill; k_fill; exact ⟨rfl, rfl⟩
  unfold Says
  clear kf
  intro dp un gd cn cs a ccd cl outer A₀ base h₀ L m s Q E B F X N T hk hdd hu hret
  walk_at "enter"
  k_steps
  all_goals exact hret _ _ _ (gsub_end (by assumption) (by assumption)) rfl
end Mine
end
section
open PySem PySem.W PyProof.Rows
set_option maxRecDepth 100000
namespace Mine
-- the entry of a def's call, the objects at hand kept in sight
local macro_rules | `(tactic| walk_at "enter") => `(tactic| (refine wpAny_call ?_; k_dflt ((refine' code_defG ?k1 ?k2 ?k3 ?k4 ?k5 ?kA ?kF ?kK ?k6 ?k7 ?k8 ?k9 ?kB ?_ ?c2 ?c3 ?c4 ?c5); (case kA => exact rfl); (case kF => exact rfl); (case kK => assumption); (case k1 => k_asm); (case k2 => k_asm); (case k3 => k_asm); (case k4 => k_asm); (case k5 => k_asm); (case k6 => k_is); (case k7 => k_is); (case k8 => ktr_room); (case k9 => exact BindsTo.of_eq rfl); (case c5 => decide); (case kB => exact locs rfl); (case c2 => exact rfl); (case c3 => exact rfl); (case c4 => exact rfl); k_whole; intro g' L' h' FG' F' N' B' X' T' kG'; (try dsimp only); (try k_lift B'); (try k_fold))))
theorem strs_of_carried : ∀ {vs : List Value} {ns : List Str}, CarriedAll vs (ns.map fun x => PyData.str x) → StrsAre vs ns
  | _, [], .nil => .nil
  | _, _ :: _, .cons c r => by
    cases c
    exact .cons _ _ (strs_of_carried r)
/-- the text of a name in quotes -/
def escT (nm : Str) : Str := Str.empty ++ Str.ofString "\"" ++ Txt.replace nm (Str.ofString "\"") (Str.ofString "\"\"") ++ Str.ofString "\""
def maybeT (nm : Str) : Str := if validB nm then nm else escT nm
local macro_rules | `(tactic| walk_at "nmok") => `(tactic| first | assumption | exact (show ∀ x ∈ _, NmOk x from by assumption) _ (by assumption))
-- the premises of a call by its contract, and what the caller knows behind it
local macro_rules | `(tactic| walk_at "says") => `(tactic| (
  (case k1 => k_asm); (case k2 => k_asm); (case k3 => k_asm); (case k5 => k_asm); (case kK => first | exact rfl | assumption);
  (case kd => ktr_room); (case ku => ktr_units);
  intro v' h' tk' hk' hp'; (have F' := Fr.keeps (by assumption) hk'); (have N' := News.grown (by assumption) hk'); (try (have cE' := inElt_trans (by assumption) hk')); clear hk'; (first | subst hp' | (obtain ⟨t', hp'⟩ := hp'; subst hp')); (try dsimp only); (try k_fold)))
local macro_rules | `(tactic| walk_at "call ref") => `(tactic| ((with_reducible show wpAny _ _ (call (Value.ref 63) [Value.str _ _]) _ _ _); (with_unfolding_all refine' says_pure (c_valid _ _ _ _ _ _ ?kn) ?k1 ?k2 ?k3 ?k5 ?kK ?kd ?ku ?_); (case kn => walk_at "nmok"); walk_at "says"))
local macro_rules | `(tactic| walk_at "call ref") => `(tactic| ((with_reducible show wpAny _ _ (call (Value.ref 77) [Value.str _ _]) _ _ _); (with_unfolding_all refine' says_pure (c_escape _ _ _ _ _ _ ?kn) ?k1 ?k2 ?k3 ?k5 ?kK ?kd ?ku ?_); (case kn => exact NmOk.len (by walk_at "nmok")); walk_at "says"))
set_option maxHeartbeats 8000000 in
theorem c_maybe (w : World) (mean : ExcName → Option Value) (mg mb : Str → Option Value) (nm : Str) (t : Tok) (hn : NmOk nm) :
    Says 2 w mean mg mb 70 [.str nm t] [] (fun _ v _ => ∃ t', v = .str (maybeT nm) t') := by
  have kf : Fill := by unfold Fill; k_fill; exact ⟨rfl, rfl⟩
  unfold Says
  clear kf
  intro dp un gd cn cs a ccd cl outer A₀ base h₀ L m s Q E B F X N T hk hdd hu hret
  walk_at "enter"
  k_steps
  · exact hret _ _ _ (gsub_end (by assumption) (by assumption)) ⟨_, by unfold maybeT; rw [if_pos (by assumption)]⟩
  · exact hret _ _ _ (gsub_end (by assumption) (by assumption)) ⟨_, by unfold maybeT; rw [if_neg (by simp [*])]; rfl⟩
local macro_rules | `(tactic| walk_at "call ref") => `(tactic| ((with_reducible show wpAny _ _ (call (Value.ref 70) [Value.str _ _]) _ _ _); (with_unfolding_all refine' says_pure (c_maybe _ _ _ _ _ _ ?kn) ?k1 ?k2 ?k3 ?k5 ?kK ?kd ?ku ?_); (case kn => walk_at "nmok"); walk_at "says"))
set_option maxHeartbeats 8000000 in
theorem c_protect (w : World) (mean : ExcName → Option Value) (mg mb : Str → Option Value) (nm : Str) (t : Tok) (hn : NmOk nm) :
    Says 3 w mean mg mb 39 [.str nm t] [] (fun _ v _ => ∃ t', v = .str (maybeT nm) t') := by
  have kf : Fill := by unfold Fill; k_fill; exact ⟨rfl, rfl⟩
  unfold Says
  clear kf
  intro dp un gd cn cs a ccd cl outer A₀ base h₀ L m s Q E B F X N T hk hdd hu hret
  walk_at "enter"
  k_steps
  all_goals exact hret _ _ _ (gsub_end (by assumption) (by assumption)) ⟨_, rfl⟩
local macro_rules | `(tactic| walk_at "call ref") => `(tactic| ((with_reducible show wpAny _ _ (call (Value.ref 39) [Value.str _ _]) _ _ _); (with_unfolding_all refine' says_pure (c_protect _ _ _ _ _ _ ?kn) ?k1 ?k2 ?k3 ?k5 ?kK ?kd ?ku ?_); (case kn => walk_at "nmok"); walk_at "says"))
set_option maxHeartbeats 8000000 in
theorem c_names (w : World) (mean : ExcName → Option Value) (mg mb : Str → Option Value) (a0 : Addr) (vs : List Value) (n : Nat) (nms : List Str) (hv : StrsAre vs nms) (hn : ∀ nm ∈ nms, NmOk nm) (hl : nms.length ≤ 1000) :
    Says 5 w mean mg mb 44 [.ref a0] [(a0, listO vs n)] (fun h v h' => h'.get? a0 = some (listO vs n) ∧ ∃ a vs' k, v = .ref a ∧ h'.get? a = some (listO vs' k) ∧ (∀ o, h.get? a = some o → a = a0) ∧ StrsAre vs' (nms.map maybeT)) := by
  have kf : Fill := by unfold Fill; k_fill; exact ⟨rfl, rfl⟩
  unfold Says
  clear kf
  intro dp un gd cn cs a ccd cl outer A₀ base h₀ L m s Q E B F X N T hk hdd hu hret
  walk_at "enter"
  k_steps
  rename_i hD _ _ hNX hC _ _ _ _
  refine hret _ _ _ (gsub_end (by assumption) (by assumption)) ⟨(hNX _ (.tail _ (.head _))).1, _, _, _, rfl, (hNX _ (.head _)).1, fun o e => ?_, strs_of_carried (ns := nms.map maybeT) (by rw [List.map_map]; exact hC)⟩
  refine Classical.byContradiction fun hne => ?_
  have hg := (show GSub s.heap _ _ from by assumption) _ _ e (fun hm => hne (List.mem_singleton.mp hm))
  rw [hD] at hg
  cases hg
end Mine
end
section
open PySem PySem.W PyProof.Rows
set_option maxRecDepth 100000
namespace Mine
-- the entry of a def's call, the objects at hand kept in sight
local macro_rules | `(tactic| walk_at "enter") => `(tactic| (refine wpAny_call ?_; k_dflt ((refine' code_defG ?k1 ?k2 ?k3 ?k4 ?k5 ?kA ?kF ?kK ?k6 ?k7 ?k8 ?k9 ?kB ?_ ?c2 ?c3 ?c4 ?c5); (case kA => exact rfl); (case kF => exact rfl); (case kK => assumption); (case k1 => k_asm); (case k2 => k_asm); (case k3 => k_asm); (case k4 => k_asm); (case k5 => k_asm); (case k6 => k_is); (case k7 => k_is); (case k8 => ktr_room); (case k9 => exact BindsTo.of_eq rfl); (case c5 => decide); (case kB => exact locs rfl); (case c2 => exact rfl); (case c3 => exact rfl); (case c4 => exact rfl); k_whole; intro g' L' h' FG' F' N' B' X' T' kG'; (try dsimp only); (try k_lift B'); (try k_fold))))
theorem int_text_all : ∀ k : Fin 200, (Str.ofString (toString ((k.val : Int) - 100))).length ≤ 4 ∧ Txt.lower (Str.ofString (toString ((k.val : Int) - 100))) = Str.ofString (toString ((k.val : Int) - 100)) := by decide +kernel
theorem int_text {i : Int} (hi : -100 ≤ i ∧ i < 100) : (Str.ofString (toString i)).length ≤ 4 ∧ Txt.lower (Str.ofString (toString i)) = Str.ofString (toString i) := by
  have h := int_text_all ⟨(i + 100).toNat, by omega⟩
  rwa [show (((⟨(i + 100).toNat, by omega⟩ : Fin 200).val : Int) - 100) = i from by show ((i + 100).toNat : Int) - 100 = i; omega] at h
theorem len_sq (nm : Str) : (Txt.replace nm (Str.ofString "'") (Str.ofString "''")).length ≤ 2 * nm.length := by
  have h := StrLaws.replace_double nm 39
  have e : Str.ofString "'" = ⟨#[39]⟩ := by decide +kernel
  have e2 : Str.ofString "''" = ⟨#[39, 39]⟩ := by decide +kernel
  rw [e, e2]
  have := congrArg List.length h
  rw [Array.length_toList] at this
  unfold Str.length
  rw [this]
  exact dbl_length _ _
set_option maxHeartbeats 8000000 in
theorem c_val_none (w : World) (mean : ExcName → Option Value) (mg mb : Str → Option Value) :
    Says 1 w mean mg mb 51 [.none] [] (fun _ v _ => ∃ t', v = .str (Str.ofString "NULL") t') := by
  have kf : Fill := by unfold Fill; k_fill; exact ⟨rfl, rfl⟩
  unfold Says
  clear kf
  intro dp un gd cn cs a ccd cl outer A₀ base h₀ L m s Q E B F X N T hk hdd hu hret
  walk_at "enter"
  k_steps
  all_goals exact hret _ _ _ (gsub_end (by assumption) (by assumption)) ⟨_, rfl⟩
set_option maxHeartbeats 8000000 in
theorem c_val_int (w : World) (mean : ExcName → Option Value) (mg mb : Str → Option Value) (i : Int) (t : Tok) (hi : -100 ≤ i ∧ i < 100) :
    Says 1 w mean mg mb 51 [.int i t] [] (fun _ v _ => ∃ t', v = .str (Txt.lower (Str.ofString (toString i))) t') := by
  have kf : Fill := by unfold Fill; k_fill; exact ⟨rfl, rfl⟩
  unfold Says
  clear kf
  intro dp un gd cn cs a ccd cl outer A₀ base h₀ L m s Q E B F X N T hk hdd hu hret
  have hi1 := (int_text hi).1
  walk_at "enter"
  k_steps
  all_goals exact hret _ _ _ (gsub_end (by assumption) (by assumption)) ⟨_, rfl⟩
set_option maxHeartbeats 8000000 in
theorem c_val_bool (w : World) (mean : ExcName → Option Value) (mg mb : Str → Option Value) (b : Bool) :
    Says 1 w mean mg mb 51 [.bool b] [] (fun _ v _ => ∃ t', v = .str (if b then Str.ofString "true" else Str.ofString "false") t') := by
  have kf : Fill := by unfold Fill; k_fill; exact ⟨rfl, rfl⟩
  unfold Says
  clear kf
  intro dp un gd cn cs a ccd cl outer A₀ base h₀ L m s Q E B F X N T hk hdd hu hret
  cases b <;> walk_at "enter" <;> k_steps
  all_goals exact hret _ _ _ (gsub_end (by assumption) (by assumption)) ⟨_, rfl⟩
set_option maxHeartbeats 8000000 in
theorem c_val_str (w : World) (mean : ExcName → Option Value) (mg mb : Str → Option Value) (nm : Str) (t : Tok) (hn : nm.length ≤ 1000) :
    Says 1 w mean mg mb 51 [.str nm t] [] (fun _ v _ => ∃ t', v = .str (Str.ofString "'" ++ Txt.replace nm (Str.ofString "'") (Str.ofString "''") ++ Str.ofString "'") t') := by
  have kf : Fill := by unfold Fill; k_fill; exact ⟨rfl, rfl⟩
  unfold Says
  clear kf
  intro dp un gd cn cs a ccd cl outer A₀ base h₀ L m s Q E B F X N T hk hdd hu hret
  have hlen2 : (Txt.replace nm (Str.ofString "'") (Str.ofString "''")).length ≤ 2000 := by have := len_sq nm; omega
  walk_at "enter"
  k_steps
  all_goals exact hret _ _ _ (gsub_end (by assumption) (by assumption)) ⟨_, rfl⟩
/-- what the law's values are -/
inductive LV where
  | none
  | int (i : Int)
  | bool (b : Bool)
  | str (x : Str)
inductive IsLV : Value → LV → Prop
  | none : IsLV .none .none
  | int (i : Int) (t : Tok) : IsLV (.int i t) (.int i)
  | bool (b : Bool) : IsLV (.bool b) (.bool b)
  | str (x : Str) (t : Tok) : IsLV (.str x t) (.str x)
def LVOk : LV → Prop
  | .int i => -100 ≤ i ∧ i < 100
  | .str x => NmOk x
  | _ => True
def protT : LV → Str
  | .none => Str.ofString "NULL"
  | .int i => Txt.lower (Str.ofString (toString i))
  | .bool b => if b then Str.ofString "true" else Str.ofString "false"
  | .str x => Str.ofString "'" ++ Txt.replace x (Str.ofString "'") (Str.ofString "''") ++ Str.ofString "'"
theorem c_val (w : World) (mean : ExcName → Option Value) (mg mb : Str → Option Value) {v : Value} {d : LV} (hv : IsLV v d) (ok : LVOk d) :
    Says 1 w mean mg mb 51 [v] [] (fun _ v _ => ∃ t', v = .str (protT d) t') := by
  cases hv with
  | none => exact c_val_none w mean mg mb
  | int i t => exact c_val_int w mean mg mb i t ok
  | bool b => exact c_val_bool w mean mg mb b
  | str x t => exact c_val_str w mean mg mb x t ok.len
end Mine
end
section
open PySem PySem.W PyProof.Rows
set_option maxRecDepth 100000
namespace Mine
abbrev tupO (vs : List Value) : Obj := { cls := .type "tuple", data := .seq vs.toArray }
theorem gsub_fresh {H g : Heap} {a : Addr} (G : GSub H g []) (h : g.get? a = none) : H.get? a = none := by
  cases e : H.get? a with
  | none => rfl
  | some o => rw [G a o e (fun hm => nomatch hm)] at h; cases h
theorem news_head {h₀ h : Heap} {L : Addr} {a : Addr} {o : Obj} {r : List (Addr × Obj)} (N : News h₀ L h ((a, o) :: r)) : h.get? a = some o := (N _ (.head _)).1
theorem news_fresh {h₀ h : Heap} {L : Addr} {a : Addr} {o : Obj} {r : List (Addr × Obj)} (N : News h₀ L h ((a, o) :: r)) : h₀.get? a = none := (N _ (.head _)).2.2
def shownT : LV → Str × Str
  | .none => (Str.ofString "", Str.ofString "NULL")
  | .int i => (Str.ofString "", Str.ofString (toString i))
  | .bool b => (Str.ofString "", if b then Str.ofString "true" else Str.ofString "false")
  | .str x => (Str.ofString "'", x)
-- the entry of a def's call, the objects at hand kept in sight
local macro_rules | `(tactic| walk_at "enter") => `(tactic| (refine wpAny_call ?_; k_dflt ((refine' code_defG ?k1 ?k2 ?k3 ?k4 ?k5 ?kA ?kF ?kK ?k6 ?k7 ?k8 ?k9 ?kB ?_ ?c2 ?c3 ?c4 ?c5); (case kA => exact rfl); (case kF => exact rfl); (case kK => assumption); (case k1 => k_asm); (case k2 => k_asm); (case k3 => k_asm); (case k4 => k_asm); (case k5 => k_asm); (case k6 => k_is); (case k7 => k_is); (case k8 => ktr_room); (case k9 => exact BindsTo.of_eq rfl); (case c5 => decide); (case kB => exact locs rfl); (case c2 => exact rfl); (case c3 => exact rfl); (case c4 => exact rfl); k_whole; intro g' L' h' FG' F' N' B' X' T' kG'; (try dsimp only); (try k_lift B'); (try k_fold))))
set_option maxHeartbeats 8000000 in
theorem c_sh_none (w : World) (mean : ExcName → Option Value) (mg mb : Str → Option Value)  :
    Says 1 w mean mg mb 129 [.none] [] (fun h v h' => ∃ a t1 t2, v = .ref a ∧ h'.get? a = some (tupO [.str (shownT (.none)).1 t1, .str (shownT (.none)).2 t2]) ∧ h.get? a = none) := by
  have kf : Fill := by unfold Fill; k_fill; exact ⟨rfl, rfl⟩
  unfold Says
  clear kf
  intro dp un gd cn cs a ccd cl outer A₀ base h₀ L m s Q E B F X N T hk hdd hu hret
  walk_at "enter"
  k_steps
  all_goals exact hret _ _ _ (gsub_end (by assumption) (by assumption)) ⟨_, _, _, rfl, news_head (show News _ _ _ (_ :: _) from by assumption), gsub_fresh (by assumption) (news_fresh (show News _ _ _ (_ :: _) from by assumption))⟩
set_option maxHeartbeats 8000000 in
theorem c_sh_int (w : World) (mean : ExcName → Option Value) (mg mb : Str → Option Value) (i : Int) (t : Tok) (hi : -100 ≤ i ∧ i < 100) :
    Says 1 w mean mg mb 129 [.int i t] [] (fun h v h' => ∃ a t1 t2, v = .ref a ∧ h'.get? a = some (tupO [.str (shownT (.int i)).1 t1, .str (shownT (.int i)).2 t2]) ∧ h.get? a = none) := by
  have kf : Fill := by unfold Fill; k_fill; exact ⟨rfl, rfl⟩
  unfold Says
  clear kf
  intro dp un gd cn cs a ccd cl outer A₀ base h₀ L m s Q E B F X N T hk hdd hu hret
  walk_at "enter"
  k_steps
  all_goals exact hret _ _ _ (gsub_end (by assumption) (by assumption)) ⟨_, _, _, rfl, news_head (show News _ _ _ (_ :: _) from by assumption), gsub_fresh (by assumption) (news_fresh (show News _ _ _ (_ :: _) from by assumption))⟩
set_option maxHeartbeats 8000000 in
theorem c_sh_true (w : World) (mean : ExcName → Option Value) (mg mb : Str → Option Value)  :
    Says 1 w mean mg mb 129 [.bool true] [] (fun h v h' => ∃ a t1 t2, v = .ref a ∧ h'.get? a = some (tupO [.str (shownT (.bool true)).1 t1, .str (shownT (.bool true)).2 t2]) ∧ h.get? a = none) := by
  have kf : Fill := by unfold Fill; k_fill; exact ⟨rfl, rfl⟩
  unfold Says
  clear kf
  intro dp un gd cn cs a ccd cl outer A₀ base h₀ L m s Q E B F X N T hk hdd hu hret
  walk_at "enter"
  k_steps
  all_goals exact hret _ _ _ (gsub_end (by assumption) (by assumption)) ⟨_, _, _, rfl, news_head (show News _ _ _ (_ :: _) from by assumption), gsub_fresh (by assumption) (news_fresh (show News _ _ _ (_ :: _) from by assumption))⟩
set_option maxHeartbeats 8000000 in
theorem c_sh_false (w : World) (mean : ExcName → Option Value) (mg mb : Str → Option Value)  :
    Says 1 w mean mg mb 129 [.bool false] [] (fun h v h' => ∃ a t1 t2, v = .ref a ∧ h'.get? a = some (tupO [.str (shownT (.bool false)).1 t1, .str (shownT (.bool false)).2 t2]) ∧ h.get? a = none) := by
  have kf : Fill := by unfold Fill; k_fill; exact ⟨rfl, rfl⟩
  unfold Says
  clear kf
  intro dp un gd cn cs a ccd cl outer A₀ base h₀ L m s Q E B F X N T hk hdd hu hret
  walk_at "enter"
  k_steps
  all_goals exact hret _ _ _ (gsub_end (by assumption) (by assumption)) ⟨_, _, _, rfl, news_head (show News _ _ _ (_ :: _) from by assumption), gsub_fresh (by assumption) (news_fresh (show News _ _ _ (_ :: _) from by assumption))⟩
set_option maxHeartbeats 8000000 in
theorem c_sh_str (w : World) (mean : ExcName → Option Value) (mg mb : Str → Option Value) (nm : Str) (t : Tok) (hn : nm.length ≤ 1000) :
    Says 1 w mean mg mb 129 [.str nm t] [] (fun h v h' => ∃ a t1 t2, v = .ref a ∧ h'.get? a = some (tupO [.str (shownT (.str nm)).1 t1, .str (shownT (.str nm)).2 t2]) ∧ h.get? a = none) := by
  have kf : Fill := by unfold Fill; k_fill; exact ⟨rfl, rfl⟩
  unfold Says
  clear kf
  intro dp un gd cn cs a ccd cl outer A₀ base h₀ L m s Q E B F X N T hk hdd hu hret
  walk_at "enter"
  k_steps
  all_goals exact hret _ _ _ (gsub_end (by assumption) (by assumption)) ⟨_, _, _, rfl, news_head (show News _ _ _ (_ :: _) from by assumption), gsub_fresh (by assumption) (news_fresh (show News _ _ _ (_ :: _) from by assumption))⟩
theorem c_shown (w : World) (mean : ExcName → Option Value) (mg mb : Str → Option Value) {v : Value} {d : LV} (hv : IsLV v d) (ok : LVOk d) :
    Says 1 w mean mg mb 129 [v] [] (fun h v h' => ∃ a t1 t2, v = .ref a ∧ h'.get? a = some (tupO [.str (shownT d).1 t1, .str (shownT d).2 t2]) ∧ h.get? a = none) := by
  cases hv with
  | none => exact c_sh_none w mean mg mb
  | int i t => exact c_sh_int w mean mg mb i t ok
  | bool b => cases b with
    | true => exact c_sh_true w mean mg mb
    | false => exact c_sh_false w mean mg mb
  | str x t => exact c_sh_str w mean mg mb x t ok.len
end Mine
end
section
open PySem PySem.W PyProof.Rows
set_option maxRecDepth 100000
namespace Mine
-- the entry of a def's call, the objects at hand kept in sight
local macro_rules | `(tactic| walk_at "enter") => `(tactic| (refine wpAny_call ?_; k_dflt ((refine' code_defG ?k1 ?k2 ?k3 ?k4 ?k5 ?kA ?kF ?kK ?k6 ?k7 ?k8 ?k9 ?kB ?_ ?c2 ?c3 ?c4 ?c5); (case kA => exact rfl); (case kF => exact rfl); (case kK => assumption); (case k1 => k_asm); (case k2 => k_asm); (case k3 => k_asm); (case k4 => k_asm); (case k5 => k_asm); (case k6 => k_is); (case k7 => k_is); (case k8 => ktr_room); (case k9 => exact BindsTo.of_eq rfl); (case c5 => decide); (case kB => exact locs rfl); (case c2 => exact rfl); (case c3 => exact rfl); (case c4 => exact rfl); k_whole; intro g' L' h' FG' F' N' B' X' T' kG'; (try dsimp only); (try k_lift B'); (try k_fold))))
set_option maxHeartbeats 8000000 in
theorem c_draw (w : World) (mean : ExcName → Option Value) (mg mb : Str → Option Value) (a0 : Addr) (b : Int) (tb : Tok) (k : Nat) (n : Int) (tn : Tok) (hb : 0 ≤ b ∧ b < 10 ^ 50) (hn : 0 < n ∧ n ≤ 200) :
    Says 1 w mean mg mb 91 [.ref a0, .int n tn] [(a0, listO [.int b tb] k)] (fun _ v h' => ∃ r b' t' t'' k', v = .int r t' ∧ h'.get? a0 = some (listO [.int b' t''] k') ∧ (0 ≤ r ∧ r < n) ∧ 0 ≤ b' ∧ b' < 10 ^ 50) := by
  have kf : Fill := by unfold Fill; k_fill; exact ⟨rfl, rfl⟩
  unfold Says
  clear kf
  intro dp un gd cn cs a ccd cl outer A₀ base h₀ L m s Q E B F X N T hk hdd hu hret
  walk_at "enter"
  k_steps
  have e1 : b.fmod n = b % n := Int.fmod_eq_emod_of_nonneg b (by omega)
  have e2 : b.fdiv n = b / n := Int.fdiv_eq_ediv_of_nonneg b (by omega)
  have h1 : 0 ≤ b % n ∧ b % n < n := ⟨Int.emod_nonneg _ (by omega), Int.emod_lt_of_pos _ (by omega)⟩
  have h2 : 0 ≤ b / n ∧ b / n < 10 ^ 50 := ⟨Int.ediv_nonneg hb.1 (by omega), Int.lt_of_le_of_lt (Int.ediv_le_self n hb.1) hb.2⟩
  rw [← e1] at h1
  rw [← e2] at h2
  exact hret _ _ _ (gsub_end (by assumption) (by assumption)) ⟨_, _, _, _, _, rfl, (show News _ _ _ (_ :: _) from by assumption) _ (.head _) |>.1, h1, h2⟩
theorem gsub_all {H g h' : Heap} {L' : Addr} {m' : Str → Option Value} (G : GSub H g []) (F' : Fr g L' h' m') : ∀ b o, H.get? b = some o → h'.get? b = some o := fun b o e => F'.keep b o (G b o e (fun hm => nomatch hm))
theorem fm50 (x : Int) : 0 ≤ x.fmod (10 ^ Int.toNat 50) ∧ x.fmod (10 ^ Int.toNat 50) < 10 ^ 50 := by
  have e : (10 ^ Int.toNat 50 : Int) = 10 ^ 50 := rfl
  have h0 : (0 : Int) < 10 ^ 50 := by decide
  rw [e, Int.fmod_eq_emod_of_nonneg x (Int.le_of_lt h0)]
  exact ⟨Int.emod_nonneg _ (Int.ne_of_gt h0), Int.emod_lt_of_pos _ h0⟩
/-- the bag that a script's place fills -/
def SaysBag (D : Nat) (w : World) (mean : ExcName → Option Value) (mg mb : Str → Option Value) (l : Addr) (vsc : List Value) (ns : List Int) (i : Int) (ti : Tok) (Post : Heap → Value → Heap → Prop) : Prop :=
  ∀ (dp un : Nat) (gd : Option (List Code)) (cn : Str) (cs : Scope) (a : Addr) (ccd : Value) (cl : List (Str × Addr)) (outer : List Env) (A₀ : Around) (base h₀ : Heap) (L : Addr) (m : Str → Option Value) (s : Shared) (Q E : Value → Shared → Prop),
    base.IsList l vsc.toArray → IntsAre vsc ns → (PyData.list (ns.map PyData.int)).layable0 = true → ns.length ≤ 63 →
    Below A₀ base outer h₀ → Fr h₀ L s.heap m → (hd.heap_39 w.params).In h₀ → Top hd.view_39 lawLoose mean mg mb h₀ → cs.kind = .function → dp + D < recursionLimit → un + 40 * D < cLine →
    (∀ v h' tk', (∀ b o, s.heap.get? b = some o → h'.get? b = some o) → Post s.heap v h' → Q v { s with heap := h', toks := tk' }) →
    wpAny (model lawProg w) (ktrTop dp un gd cn cs L a ccd cl outer) (call (.ref 84) [.ref l, .int i ti]) Q E s
set_option maxHeartbeats 8000000 in
theorem c_bag (w : World) (mean : ExcName → Option Value) (mg mb : Str → Option Value) (l : Addr) (vsc : List Value) (ns : List Int) (i : Int) (ti : Tok) (hi : 0 ≤ i ∧ i < 6) :
    SaysBag 1 w mean mg mb l vsc ns i ti (fun h v h' => ∃ a b t k, v = .ref a ∧ h'.get? a = some (listO [.int b t] k) ∧ h.get? a = none ∧ 0 ≤ b ∧ b < 10 ^ 50) := by
  have kf : Fill := by unfold Fill; k_fill; exact ⟨rfl, rfl⟩
  unfold SaysBag
  clear kf
  intro dp un gd cn cs a ccd cl outer A₀ base h₀ L m s Q E hl hI hlay hlen B F X T hk hdd hu hret
  have N : News h₀ L s.heap [] := News.nil
  k_with "pyIter ref" => k_state (fun _ n => n = n) "n"
  walk_at "enter"
  k_steps
  all_goals exact hret _ _ _ (gsub_all (by assumption) (by assumption)) ⟨_, _, _, _, rfl, news_head (show News _ _ _ (_ :: _) from by assumption), gsub_fresh (by assumption) (news_fresh (show News _ _ _ (_ :: _) from by assumption)), fm50 _⟩
end Mine
end
section
open PySem PySem.W PyProof.Rows PySem.Calls
set_option maxRecDepth 100000
namespace Mine
section
variable {prog : Program} {w : World} {A₀ A : Around} {s : Shared} {base h₀ : Heap} {outer : List Env} {L : Addr} {m : Str → Option Value} {env : Env} {news : List (Addr × Obj)} {K : Frag}
  {p : Program} {loose : List Str} {mean : ExcName → Option Value} {mg mb : Str → Option Value}
/-- the entry of a def whose locals are cells, the objects at hand kept in sight -/
theorem enter_cells {R : Result → Shared → Prop} {name qual : Str} {params : Arguments} {body : List Stmt} {scope : Scope} {dV kV doc pm cdv ct oc : Value} {an od : Option Addr} {osl : Array (Option Value)} {f : Addr} {args : Args} {binds : List (Str × Value)}
    (B : Below A₀ base outer h₀) (F : Fr h₀ L s.heap m) (X₀ : K.In h₀) (N : News h₀ L s.heap news) (T : Top p loose mean mg mb h₀) (hA : A.frames = some (env :: outer)) (hf : env.frame = some L) (hke : env.scope.kind = .function)
    (ho : K.lookup f = some ⟨oc, od, .func (fnOf name qual params body scope dV kV doc pm an cdv ct), osl⟩) (hcd : codeIn K cdv qual = true) (hroom : A.depth < recursionLimit)
    (hbind : BindsTo s (fnOf name qual params body scope dV kV doc pm an cdv ct) args binds) (hkind : (binds.all fun y => scope.names.lookup y.1 == some .local || scope.names.lookup y.1 == some .cell) = true)
    (hnd : ((cellsFrom 0 scope.names []).map (·.1)).Nodup)
    (h : ∀ g L' h₁ tk cells, Fr h₀ L g m → Fr g L' h₁ (bindL (envOfC qual scope L' f cdv).kindOf binds fun _ => none) → News g L' h₁ (cells ++ news) →
      CellsAre (bindC (envOfC qual scope L' f cdv).kindOf binds fun _ => none) (cellsFrom (L' + 1) scope.names []) cells → Below A base (env :: outer) g → K.In g → Top p loose mean mg mb g → GSub s.heap g (news.map (·.1)) → (∀ p ∈ news, p.1 < L') →
      wpAny (model prog w) (A.deeper (envOfC qual scope L' f cdv)) (execs body (envOfC qual scope L' f cdv))
        (fun fl s' => LeaveK h₀ L m g R (match fl with | .ret v => v | _ => .none) s')
        (fun e s' => wpAny (model prog w) (A.deeper (envOfC qual scope L' f cdv)) (leaving (envOfC qual scope L' f cdv) e) (fun _ s'' => R (.error e) s'') (fun e' s'' => R (.error e') s'') s')
        { s with heap := h₁, toks := tk })
    (hco : scope.isCoroutine = false) (hgen : scope.isGenerator = false) (hk : scope.kind = .function) : codeAny (model prog w) A (.call (.ref f) args) R s := by
  obtain ⟨FG, BG, st, back⟩ := groundX (R := R) B F N hA hf hke
  have fo := (X₀.keeps F.keep) _ _ ho
  refine codeAny_call_function hroom fo rfl hco hgen rfl (codeRec_of (X₀.keeps F.keep) hcd) (hbind _ _ _ _ ?_)
  refine wpAny_newFunctionEnv_cells hk (kindsX hkind _) fun env' he s' x => ?_
  subst he
  refine ⟨(T.nolimit.keeps F.keep).keeps x.toInCall.keep, codeAny_func ?_⟩
  obtain ⟨h₁, tk, rfl, _⟩ := x.done
  have kept := x.toInCall.keep
  have nd : ((cellsFrom (s.heap.objs.size + 1) scope.names []).map (·.1)).Nodup := by
    rw [← cellsFrom_names scope.names 0 (s.heap.objs.size + 1) [] [] rfl]; exact hnd
  obtain ⟨cells, NC, Y⟩ := Cl.news (h₀ := s.heap) (Nat.le_refl _) fun n c hm => ⟨x.cell n c (lookup_of_mem_nodup nd hm), x.above n c hm⟩
  have NA : News (hideAll s.heap (news.map (·.1))) s.heap.objs.size h₁ (cells ++ news) := by
    intro q hq
    cases List.mem_append.mp hq with
    | inl hq =>
      refine ⟨(NC q hq).1, (NC q hq).2.1, ?_⟩
      cases e : (hideAll s.heap (news.map (·.1))).get? q.1 with
      | none => rfl
      | some o =>
        have hs := of_hideAll _ e
        rw [(NC q hq).2.2] at hs
        cases hs
    | inr hq => exact ⟨kept _ _ (N q hq).1, Nat.ne_of_lt (Heap.lt_size (N q hq).1), hideAll_none _ (List.mem_map_of_mem hq)⟩
  exact wpAny_mono (h _ s.heap.objs.size h₁ tk cells FG ⟨x.toInCall.ns, fun b o e => kept b o (of_hideAll _ e), Nat.le_of_eq (hideAll_size _ _)⟩ NA Y BG (X₀.keeps st) (T.keeps st)
    (fun b o e n => hideAll_get _ e n) fun q hq => Heap.lt_size (N q hq).1) (fun fl s' hl => back _ _ hl) fun _ _ y => y
end
end Mine
end
section
open PySem PySem.W PyProof.Rows PySem.Calls
set_option maxRecDepth 100000
namespace Mine
open LCg LCt
section
variable {prog : Program} {w : World} {A : Around} {E : Value → Shared → Prop} {s : Shared} {h₀ : Heap} {L : Addr} {m : Str → Option Value} {env : Env}
theorem strIter_st {I : Addr} {T : String} {x : Str} {t : Tok} : ∀ i (h h' : Heap) (o : Obj) (nw : List (Addr × Obj)), h.IsStrIter I T x t i → h.get? I = some o → h'.get? I = some o → (∀ b o, h₀.get? b = some o → h'.get? b = some o) → News h₀ L h' nw → True → h'.IsStrIter I T x t i :=
  fun _ _ _ _ _ st e e' _ _ _ => by
    obtain ⟨o', q, r⟩ := st
    rw [e] at q
    cases q
    exact ⟨_, e', r⟩
/-- a comprehension with one test over a text's signs -/
theorem listComp_str {ct elt iter : Expr} {x : Str} {px : Pos} {scope : Scope} {cl : List (Str × Addr)} {pos : Pos} {Q : Value → Shared → Prop} (_F₀ : Fr h₀ L s.heap m)
    (hclos : closureFor scope env = pure cl) (hcell : ∀ y ∈ scope.names, y.2 ≠ .cell) (hkind : scope.kind = .function)
    (hnames : ∀ y ∈ scope.names, y.2 = .local → scope.names.lookup y.1 = some .local) (hx : scope.names.lookup x = some .local)
    (h : wpAny (model prog w) A (eval iter env) (fun xv s₁ => ∃ tx t news, xv = .str tx t ∧ A.handled = none ∧ Fr h₀ L s₁.heap m ∧ News h₀ L s₁.heap news ∧ tx.cps.size ≤ sizeLine ∧
      ∀ g, CompRestT prog w A h₀ L m env ct elt x scope cl { s₁ with heap := g } (fun _ => True) (SignAt tx) (FinE h₀ L m { s₁ with heap := g } Q) tx.cps.size 0 [] news) E s)
    (hs : ∀ x, foldedSetIterable iter env x = pure x := by intro _; rfl) :
    wpAny (model prog w) A (eval (.ListComp elt [⟨.Name x px, iter, [ct], 0⟩] scope pos) env) Q E s := by
  rw [eval_ListComp]
  refine wpAny_comprehension_free (use := none) rfl hs hclos hkind hnames (wpAny_mono h (fun xv s₁ h₁ => ?_) fun _ _ e => e)
  obtain ⟨tx, t, news, rfl, hh, F, N, hsz, R⟩ := h₁
  cases ha : tx.cps.all (· < 128)
  · refine wpAny_pyIter_wide ha ?_
    refine block_T (Walks.strWide hh _ tx t) hsz (fun i h st => by obtain ⟨o, e, _⟩ := st; exact ⟨o, e⟩) strIter_st hcell hkind hx ⟨_, Heap.get?_push_size _ rfl, rfl, rfl⟩ (fun b hb => ?_)
      (F.keeps fun _ _ e => Heap.get?_push_of_some _ e) (N.grown fun _ _ e => Heap.get?_push_of_some _ e) (Nat.ne_of_lt F.ns.lt) (next_is_new F) (fun p hp => Nat.ne_of_lt (Heap.lt_size (N p hp).1)) trivial (R _) ?_
    · rw [List.mem_singleton.mp hb]
      show s₁.heap.objs.size < (s₁.heap.push _).objs.size
      rw [Heap.size_push]; exact Nat.lt_succ_self _
    · intro D C h tk m' ys news' F' N' o1 hn hC₀ hD₀ hCL hDL hCD offC fin
      refine ⟨m', hn, fun h'' hs'' => fin D h'' tk (F'.change hs'' hCL hC₀) (fun p hp => ?_) o1⟩
      refine ⟨hs''.extBut _ _ ?_ (N' p hp).1, (N' p hp).2⟩
      rcases List.mem_cons.mp hp with rfl | hp
      · exact Ne.symm hCD
      · exact offC p hp
  · refine wpAny_pyIter_ascii ha ?_
    refine block_T (Walks.strAscii hh _ tx t) hsz (fun i h st => by obtain ⟨o, e, _⟩ := st; exact ⟨o, e⟩) strIter_st hcell hkind hx ⟨_, Heap.get?_push_size _ rfl, rfl, rfl⟩ (fun b hb => ?_)
      (F.keeps fun _ _ e => Heap.get?_push_of_some _ e) (N.grown fun _ _ e => Heap.get?_push_of_some _ e) (Nat.ne_of_lt F.ns.lt) (next_is_new F) (fun p hp => Nat.ne_of_lt (Heap.lt_size (N p hp).1)) trivial (R _) ?_
    · rw [List.mem_singleton.mp hb]
      show s₁.heap.objs.size < (s₁.heap.push _).objs.size
      rw [Heap.size_push]; exact Nat.lt_succ_self _
    · intro D C h tk m' ys news' F' N' o1 hn hC₀ hD₀ hCL hDL hCD offC fin
      refine ⟨m', hn, fun h'' hs'' => fin D h'' tk (F'.change hs'' hCL hC₀) (fun p hp => ?_) o1⟩
      refine ⟨hs''.extBut _ _ ?_ (N' p hp).1, (N' p hp).2⟩
      rcases List.mem_cons.mp hp with rfl | hp
      · exact Ne.symm hCD
      · exact offC p hp
theorem strs_snoc {y : Str} {t : Tok} : ∀ {vs : List Value} {ys : List Str}, StrsAre vs ys → StrsAre (vs ++ [.str y t]) (ys ++ [y])
  | _, _, .nil => .cons y t .nil
  | _, _, .cons z u r => .cons z u (strs_snoc r)
/-- its turns: the signs that stand the test are kept -/
theorem comp_filter {ct elt : Expr} {x : Str} {scope : Scope} {cl : List (Str × Addr)} {Fin : List Value → List (Addr × Obj) → Prop} {tx : Str} {news : List (Addr × Obj)} (p : Nat → Bool)
    (turn : ∀ c t I oI C oC D m₂ ys h tk (E' : Value → Shared → Prop), NsObj oC m₂ → m₂ x = some (.str ⟨#[c]⟩ t) → Fr h₀ L h m → News h₀ L h ((I, oI) :: (C, oC) :: (D, lst ys) :: news) → Off3 I C D news → ((@Ne Nat I C) ∧ (@Ne Nat I D) ∧ (@Ne Nat C D)) →
      wpAny (model prog w) A (isTrue ct (compEnvC scope cl C env) (eval ct (compEnvC scope cl C env))) (fun ok s' => if ok = true then
        wpAny (model prog w) A (eval elt (compEnvC scope cl C env)) (CompEnd h₀ L m { s with heap := h, toks := tk } I oI C oC D (lst ys) (fun _ => True) (fun y news' => p c = true ∧ news' = news ∧ ∃ t', y = .str ⟨#[c]⟩ t')) E' s'
        else CompEnd h₀ L m { s with heap := h, toks := tk } I oI C oC D (lst ys) (fun _ => True) (fun _ news' => p c = false ∧ news' = news) Value.none s') E' { s with heap := h, toks := tk })
    (fin : ∀ ys, StrsAre ys ((tx.cps.toList.filter p).map fun c => (⟨#[c]⟩ : Str)) → Fin ys news) :
    CompRestT prog w A h₀ L m env ct elt x scope cl s (fun _ => True) (SignAt tx) Fin tx.cps.size 0 [] news := by
  have key : ∀ (j i : Nat) (ys : List Value), i + j = tx.cps.size → StrsAre ys (((tx.cps.toList.take i).filter p).map fun c => (⟨#[c]⟩ : Str)) →
      CompRestT prog w A h₀ L m env ct elt x scope cl s (fun _ => True) (SignAt tx) Fin j i ys news := by
    intro j
    induction j with
    | zero =>
      intro i ys hi hy
      have e : tx.cps.toList.take i = tx.cps.toList := by rw [List.take_of_length_le]; rw [Array.length_toList]; omega
      rw [e] at hy
      exact CompRestT.zero (fin ys hy)
    | succ j ih =>
      intro i ys hi hy
      refine CompRestT.succ ?_
      intro v I oI C oC D m₂ h tk E' hv hC hx F N off ne
      obtain ⟨c, u, hc, rfl⟩ := hv
      have hc' : tx.cps.toList[i]? = some c := by rw [Array.getElem?_toList]; exact hc
      have next : ∀ zs, StrsAre zs ((((tx.cps.toList.take i).filter p) ++ [c].filter p).map fun c => (⟨#[c]⟩ : Str)) → CompRestT prog w A h₀ L m env ct elt x scope cl s (fun _ => True) (SignAt tx) Fin j (i + 1) zs news := fun zs hz => by
        refine ih (i + 1) zs (by omega) ?_
        rw [List.take_add_one, hc', List.filter_append]
        exact hz
      refine wpAny_mono (turn c u I oI C oC D m₂ ys h tk E' hC hx F N off ne) (fun ok s' hq => ?_) fun _ _ e => e
      cases ok with
      | true =>
        simp only [if_true] at hq ⊢
        refine wpAny_mono hq (fun y s₂ hq => ?_) fun _ _ e => e
        obtain ⟨h', tk', nw, e, F', N', off', hS, hp, hn, t', hy'⟩ := hq
        subst hn
        refine ⟨h', tk', _, e, F', N', off', hS, next _ ?_⟩
        subst hy'
        rw [List.filter_cons, hp, if_pos rfl, List.filter_nil, List.map_append]
        exact strs_snoc hy
      | false =>
        simp only [Bool.false_eq_true, if_false] at hq ⊢
        obtain ⟨h', tk', nw, e, F', N', off', hS, hp, hn⟩ := hq
        subst hn
        refine ⟨h', tk', _, e, F', N', off', hS, next _ ?_⟩
        rw [List.filter_cons, hp, if_neg Bool.false_ne_true, List.filter_nil, List.append_nil]
        exact hy
  exact key tx.cps.size 0 [] (by omega) (by simp only [List.take_zero, List.filter_nil, List.map_nil]; exact .nil)
end
end Mine
end
section
open PySem PySem.W PyProof.Rows
set_option maxRecDepth 100000
namespace Mine
-- the entry of a def's call, the objects at hand kept in sight
local macro_rules | `(tactic| walk_at "enter") => `(tactic| (refine wpAny_call ?_; k_dflt ((refine' code_defG ?k1 ?k2 ?k3 ?k4 ?k5 ?kA ?kF ?kK ?k6 ?k7 ?k8 ?k9 ?kB ?_ ?c2 ?c3 ?c4 ?c5); (case kA => exact rfl); (case kF => exact rfl); (case kK => assumption); (case k1 => k_asm); (case k2 => k_asm); (case k3 => k_asm); (case k4 => k_asm); (case k5 => k_asm); (case k6 => k_is); (case k7 => k_is); (case k8 => ktr_room); (case k9 => exact BindsTo.of_eq rfl); (case c5 => decide); (case kB => exact locs rfl); (case c2 => exact rfl); (case c3 => exact rfl); (case c4 => exact rfl); k_whole; intro g' L' h' FG' F' N' B' X' T' kG'; (try dsimp only); (try k_lift B'); (try k_fold))))
local macro_rules | `(tactic| walk_at "enterC") => `(tactic| (refine wpAny_call ?_; k_dflt ((refine' enter_cells ?k1 ?k2 ?k3 ?k4 ?k5 ?kA ?kF ?kK ?k6 ?k7 ?k8 ?k9 ?kB ?kD ?_ ?c2 ?c3 ?c4); (case kA => exact rfl); (case kF => exact rfl); (case kK => assumption); (case k1 => k_asm); (case k2 => k_asm); (case k3 => k_asm); (case k4 => k_asm); (case k5 => k_asm); (case k6 => k_is); (case k7 => k_is); (case k8 => ktr_room); (case k9 => exact BindsTo.of_eq rfl); (case kB => exact rfl); (case kD => decide +kernel); (case c2 => exact rfl); (case c3 => exact rfl); (case c4 => exact rfl); k_whole; intro g' L' h' tk' cells' FG' F' N' Y' B' X' T' kG' l1; (try k_lt l1); k_cells Y'; (try simp only [List.cons_append, List.nil_append] at N'); (try dsimp only); (try k_lift B'); (try k_fold))))
theorem says_bag {D : Nat} {w : World} {mean : ExcName → Option Value} {mg mb : Str → Option Value} {f : Addr} {vs : List Value} {a0 : Addr} {o : Obj} {Post : Heap → Value → Heap → Prop} (S : Says D w mean mg mb f vs [(a0, o)] Post)
    {dp un : Nat} {gd : Option (List Code)} {cn : Str} {cs : Scope} {a : Addr} {ccd : Value} {cl : List (Str × Addr)} {outer : List Env} {A₀ : Around} {base h₀ : Heap} {L : Addr} {m : Str → Option Value} {s : Shared} {Q E : Value → Shared → Prop} {news : List (Addr × Obj)} {gg : Obj → List (Addr × Obj)}
    (U : UpdF a0 o news gg) (B : Below A₀ base outer h₀) (F : Fr h₀ L s.heap m) (X : (hd.heap_39 w.params).In h₀) (N : News h₀ L s.heap news) (T : Top hd.view_39 lawLoose mean mg mb h₀) (hk : cs.kind = .function) (hd : dp + D < recursionLimit) (hu : un + 40 * D < cLine)
    (ret : ∀ v h' tk', Fr h₀ L h' m → (∀ o', h'.get? a0 = some o' → News h₀ L h' (gg o')) → Post s.heap v h' → Q v { s with heap := h', toks := tk' }) :
    wpAny (model lawProg w) (ktrTop dp un gd cn cs L a ccd cl outer) (call (.ref f) vs) Q E s := by
  obtain ⟨pre, post, rfl, hg, h1, h2⟩ := U.split
  have hm := N (a0, o) (List.mem_append_right _ (.head _))
  refine S _ _ _ _ _ _ _ _ _ _ _ _ _ _ _ _ _ B F X (fun q hq => by rw [List.mem_singleton.mp hq]; exact hm) T hk hd hu fun v h' tk' g p => ?_
  have keep : ∀ b x, s.heap.get? b = some x → b ≠ a0 → h'.get? b = some x := fun b x e ne => g b x e (fun hq => ne (List.mem_singleton.mp hq))
  obtain ⟨oL, es, ep, hL, hr⟩ := F.ns
  refine ret v h' tk' ⟨⟨oL, es, ep, keep _ _ hL (Ne.symm hm.2.1), hr⟩, fun b x e => keep _ _ (F.keep b x e) (fun q => ?_), F.above⟩ (fun o' ho' => ?_) p
  · have h0 := hm.2.2
    rw [← q, e] at h0
    cases h0
  · rw [hg]
    intro q hq
    rcases List.mem_append.mp hq with hq | hq
    · have hq' := N q (List.mem_append_left _ hq)
      exact ⟨keep _ _ hq'.1 (h1 q hq), hq'.2⟩
    · rcases List.mem_cons.mp hq with rfl | hq
      · exact ⟨ho', hm.2⟩
      · have hq' := N q (List.mem_append_right _ (.tail _ hq))
        exact ⟨keep _ _ hq'.1 (h2 q hq), hq'.2⟩
local macro_rules | `(tactic| walk_at "saysB") => `(tactic| (
  (case k4 => k_asm); (case kU => k_updF); (case k1 => k_asm); (case k2 => k_asm); (case k3 => k_asm); (case k5 => k_asm); (case kK => first | exact rfl | assumption);
  (case kd => ktr_room); (case ku => ktr_units)))
local macro_rules | `(tactic| walk_at "call ref") => `(tactic| (
  (with_reducible show wpAny _ _ (call (Value.ref 91) [Value.ref _, Value.int _ _]) _ _ _); (with_unfolding_all refine' says_bag (c_draw _ _ _ _ _ _ _ _ _ _ ?kb ?kn) ?kU ?k1 ?k2 ?k3 ?k4 ?k5 ?kK ?kd ?ku ?_); walk_at "saysB"; (case kb => assumption); (case kn => decide);
  intro v' h' tk' F' kN' hp'; obtain ⟨r', b', t', t2', k', hv', ho', hr', hb'⟩ := hp'; subst hv'; (have N' := kN' _ ho'); clear kN'; (try dsimp only); (try k_fold)))
def signsL : List Str := [Str.ofString "a", Str.ofString "z", Str.ofString "_", Str.ofString "0", Str.ofString "\"", Str.ofString "'", Str.ofString "B", Str.ofString " ", Str.ofString ",", Str.ofString "-", Str.ofString "é", Str.ofString "q"]
def signCodes : List Nat := [97, 122, 95, 48, 34, 39, 66, 32, 44, 45, 233, 113]
/-- a text that the law builds of its signs -/
def SignT (x : Str) : Prop := x.cps.toList.length ≤ 5 ∧ ∀ c ∈ x.cps.toList, c ∈ signCodes
theorem sign_one : ∀ y ∈ signsL, y.cps.toList.length = 1 ∧ ∀ c ∈ y.cps.toList, c ∈ signCodes := by decide +kernel
theorem txt_join (sep : Str) (l : List Str) : Txt.join sep l = Str.join sep l := StrLaws.glued_eq_join sep l
theorem join_signs : ∀ xs : List Str, (∀ y ∈ xs, y ∈ signsL) → (Txt.join (Str.ofString "") xs).cps.toList.length = xs.length ∧ ∀ c ∈ (Txt.join (Str.ofString "") xs).cps.toList, c ∈ signCodes
  | [], _ => ⟨rfl, fun c hc => nomatch hc⟩
  | [x], h => sign_one x (h x (.head _))
  | x :: y :: r, h => by
    have ih := join_signs (y :: r) fun z hz => h z (.tail _ hz)
    have h1 := sign_one x (h x (.head _))
    have e : (Txt.join (Str.ofString "") (x :: y :: r)).cps.toList = x.cps.toList ++ (Txt.join (Str.ofString "") (y :: r)).cps.toList := by
      rw [txt_join, txt_join]
      show (x ++ Str.ofString "" ++ Str.join (Str.ofString "") (y :: r)).cps.toList = _
      rw [Str.cps_append, Str.cps_append, Array.toList_append, Array.toList_append, show (Str.ofString "").cps.toList = [] from rfl, List.append_nil]
    rw [e, List.length_append, h1.1, ih.1]
    refine ⟨by simp only [List.length_cons]; omega, fun c hc => ?_⟩
    rcases List.mem_append.mp hc with hc | hc
    · exact h1.2 c hc
    · exact ih.2 c hc
theorem sum_signs : ∀ xs : List Str, (∀ y ∈ xs, y ∈ signsL) → (xs.map (·.length)).sum = xs.length
  | [], _ => rfl
  | x :: r, h => by
    have h1 : x.length = 1 := (sign_one x (h x (.head _))).1
    rw [List.map_cons, List.sum_cons, sum_signs r fun z hz => h z (.tail _ hz), h1, List.length_cons]
    omega
theorem sign_small : ∀ c ∈ signCodes, c < 1114112 := by decide
theorem sign_nm {x : Str} (h : SignT x) : NmOk x := by
  refine ⟨Nat.le_trans h.1 (by decide), fun i => ?_, ?_⟩
  · by_cases hi : i < x.cps.size
    · have hm : x.cps.getD i 0 ∈ x.cps.toList := by
        rw [Array.getD_eq_getD_getElem?, Array.getElem?_eq_getElem hi]
        exact Array.getElem_mem_toList hi
      have := h.2 _ hm
      intro e
      rw [e] at this
      exact absurd this (by decide)
    · rw [Array.getD_eq_getD_getElem?, Array.getElem?_eq_none (by omega)]
      decide
  · unfold PyData.strOk
    rw [← Array.all_toList, List.all_eq_true]
    intro c hc
    exact decide_eq_true (sign_small c (h.2 c hc))
def SignV (v : Value) : Prop := ∃ x t, v = .str x t ∧ x ∈ signsL
def BagLed (l : List (Addr × Obj)) (a0 : Addr) (nw : List (Addr × Obj)) : Prop := ∃ b t k, nw = l ++ [(a0, listO [.int b t] k)] ∧ 0 ≤ b ∧ b < 10 ^ 50
theorem strs_of_signs : ∀ {ys : List Value}, (∀ y ∈ ys, SignV y) → ∃ xs, StrsAre ys xs ∧ (∀ x ∈ xs, x ∈ signsL) ∧ xs.length = ys.length
  | [], _ => ⟨[], .nil, (fun _ h => nomatch h), rfl⟩
  | y :: r, h => by
    obtain ⟨x, t, rfl, hx⟩ := h y (.head _)
    obtain ⟨xs, h1, h2, h3⟩ := strs_of_signs fun z hz => h z (.tail _ hz)
    refine ⟨x :: xs, .cons x t h1, fun z hz => ?_, by simp [h3]⟩
    rcases List.mem_cons.mp hz with rfl | hz
    · exact hx
    · exact h2 z hz
section
variable {prog : Program} {w : World} {A : Around} {h₀ : Heap} {L : Addr} {m : Str → Option Value} {env : Env} {elt : Expr} {x : Str} {scope : Scope} {cl : List (Str × Addr)} {s : Shared} {S : List (Addr × Obj) → Prop} {P : Nat → Value → Prop} {Fin : List Value → List (Addr × Obj) → Prop}
/-- a comprehension whose turns draw from the bag -/
theorem comp_bag {n : Nat} {p1 p2 p3 : Addr × Obj} {a0 : Addr} {b : Int} {t : Tok} {k : Nat} (hb : 0 ≤ b ∧ b < 10 ^ 50)
    (turn : ∀ v I oI C oC D m₂ ys h tk (E' : Value → Shared → Prop) b t k, (0 ≤ b ∧ b < 10 ^ 50) → LCg.NsObj oC m₂ → m₂ x = some v → Fr h₀ L h m → News h₀ L h ((I, oI) :: (C, oC) :: (D, LCg.lst ys) :: [p1, p2, p3, (a0, listO [.int b t] k)]) → LCg.Off3 I C D [p1, p2, p3, (a0, listO [.int b t] k)] → ((@Ne Nat I C) ∧ (@Ne Nat I D) ∧ (@Ne Nat C D)) →
      wpAny (model prog w) A (eval elt (compEnvC scope cl C env)) (LCg.CompEnd h₀ L m { s with heap := h, toks := tk } I oI C oC D (LCg.lst ys) S (fun y nw => SignV y ∧ BagLed [p1, p2, p3] a0 nw)) E' { s with heap := h, toks := tk })
    (fin : ∀ ys xs b t k, StrsAre ys xs → (∀ x ∈ xs, x ∈ signsL) → xs.length = n → (0 ≤ b ∧ b < 10 ^ 50) → Fin ys [p1, p2, p3, (a0, listO [.int b t] k)]) :
    LCg.CompRest prog w A h₀ L m env elt x scope cl s S P Fin n 0 [] [p1, p2, p3, (a0, listO [.int b t] k)] := by
  have key : ∀ (j : Nat) (i : Nat) (ys : List Value) (b : Int) (t : Tok) (k : Nat), ys.length + j = n → (∀ y ∈ ys, SignV y) → (0 ≤ b ∧ b < 10 ^ 50) →
      LCg.CompRest prog w A h₀ L m env elt x scope cl s S P Fin j i ys [p1, p2, p3, (a0, listO [.int b t] k)] := by
    intro j
    induction j with
    | zero =>
      intro i ys b t k hl hy hb
      obtain ⟨xs, h1, h2, h3⟩ := strs_of_signs hy
      exact LCg.CompRest.zero (fin ys xs b t k h1 h2 (by omega) hb)
    | succ j ih =>
      intro i ys b t k hl hy hb
      refine LCg.CompRest.succ ?_
      intro v I oI C oC D m₂ h tk E' hv hC hx F N off ne
      refine wpAny_mono (turn v I oI C oC D m₂ ys h tk E' b t k hb hC hx F N off ne) (fun y s₂ hq => ?_) fun _ _ e => e
      obtain ⟨h', tk', nw, e, F', N', off', hS, hy', b', t', k', hn, hb'⟩ := hq
      subst hn
      refine ⟨h', tk', _, e, F', N', off', hS, ih (i + 1) _ b' t' k' (by rw [List.length_append, List.length_singleton]; omega) (fun z hz => ?_) hb'⟩
      rcases List.mem_append.mp hz with hz | hz
      · exact hy z hz
      · rw [List.mem_singleton.mp hz]; exact hy'
  exact key n 0 [] b t k (by simp) (fun y hy => nomatch hy) hb
end
theorem sign_at {r : Int} (h : 0 ≤ r ∧ r < 12) (t : Tok) : SignV (.str (signsL.getD r.toNat Str.empty) t) := by
  refine ⟨_, t, rfl, ?_⟩
  have hl : r.toNat < signsL.length := by show r.toNat < 12; omega
  rw [List.getD_eq_getElem?_getD, List.getElem?_eq_getElem hl]
  exact List.getElem_mem hl
local macro_rules | `(tactic| walk_at "SignV") => `(tactic| exact sign_at (by assumption) _)
local macro_rules | `(tactic| walk_at "BagLed") => `(tactic| exact ⟨_, _, _, rfl, by assumption⟩)
local macro_rules | `(tactic| walk_at "call builtin:str.join") => `(tactic| (
  (rename StrsAre _ _ => hS'); (rename (∀ x ∈ _, x ∈ signsL) => hI'); (have hM' := sum_signs _ hI');
  (refine join_listC ?kl hS' ?ks ?ko ?_); (case kl => exact News.isList (by assumption) (.head _)); (case ks => decide); (case ko => rw [hM']; omega); intro t' k'))
local macro_rules | `(tactic| walk_at "CompSrc") => `(tactic| (
  k_dflt (refine LCg.CompSrc.range (by rfl) (by k_asm) (by k_asm) (by assumption) (by first | exact small_one (by omega) (by omega) (by omega) (by omega) | decide) (by first | exact rangeSize_nat _ _ | rfl) (by rw [PySem.sizeLine_eq]; omega) ?_; intro g'; refine' comp_bag (by assumption) (fun v' I' oI' C' oC' D' m' ys' h' tk' E' b' t' k' hb' hC' hx' F' N' off' ne' => ?_) (fun ys' xs' b' t' k' hxs' hin' hln' hb' => ?_));
  (all_goals (try (simp only [LCg.Off3, and_true] at off'))); (all_goals (try k_fold))))
local macro_rules | `(tactic| walk_at "CompEnd") => `(tactic| (refine LCg.CompEnd.intro (by assumption) (by assumption) _ ?ka ?kb ?kc ⟨⟨_, _, rfl, ?kd⟩, ⟨_, _, _, rfl, ?ke⟩⟩))
set_option maxHeartbeats 8000000 in
theorem c_signs (w : World) (mean : ExcName → Option Value) (mg mb : Str → Option Value) (a0 : Addr) (b : Int) (tb : Tok) (k : Nat) (hb : 0 ≤ b ∧ b < 10 ^ 50) :
    Says 3 w mean mg mb 96 [.ref a0] [(a0, listO [.int b tb] k)] (fun _ v h' => ∃ x b' t t' k', v = .str x t ∧ h'.get? a0 = some (listO [.int b' t'] k') ∧ SignT x ∧ 0 ≤ b' ∧ b' < 10 ^ 50) := by
  have kf : Fill := by unfold Fill; k_fill; exact ⟨rfl, rfl⟩
  unfold Says
  clear kf
  intro dp un gd cn cs a ccd cl outer A₀ base h₀ L m s Q E B F X N T hk hdd hu hret
  walk_at "enterC"
  k_steps
  refine hret _ _ _ (gsub_end (by assumption) (by assumption)) ⟨_, _, _, _, _, rfl, News.get (by assumption) (by k_mem), ⟨?_, (join_signs _ (by assumption)).2⟩, by assumption⟩
  rw [(join_signs _ (by assumption)).1]
  omega
end Mine
end
section
open PySem PySem.W PyProof.Rows
set_option maxRecDepth 100000
namespace Mine
-- the entry of a def's call, the objects at hand kept in sight
local macro_rules | `(tactic| walk_at "enter") => `(tactic| (refine wpAny_call ?_; k_dflt ((refine' code_defG ?k1 ?k2 ?k3 ?k4 ?k5 ?kA ?kF ?kK ?k6 ?k7 ?k8 ?k9 ?kB ?_ ?c2 ?c3 ?c4 ?c5); (case kA => exact rfl); (case kF => exact rfl); (case kK => assumption); (case k1 => k_asm); (case k2 => k_asm); (case k3 => k_asm); (case k4 => k_asm); (case k5 => k_asm); (case k6 => k_is); (case k7 => k_is); (case k8 => ktr_room); (case k9 => exact BindsTo.of_eq rfl); (case c5 => decide); (case kB => exact locs rfl); (case c2 => exact rfl); (case c3 => exact rfl); (case c4 => exact rfl); k_whole; intro g' L' h' FG' F' N' B' X' T' kG'; (try dsimp only); (try k_lift B'); (try k_fold))))
theorem sign_len {x : Str} (h : SignT x) : x.length ≤ 5 := h.1
local macro_rules | `(tactic| walk_at "saysB") => `(tactic| (
  (case k4 => k_asm); (case kU => k_updF); (case k1 => k_asm); (case k2 => k_asm); (case k3 => k_asm); (case k5 => k_asm); (case kK => first | exact rfl | assumption);
  (case kd => ktr_room); (case ku => ktr_units)))
local macro_rules | `(tactic| walk_at "call ref") => `(tactic| (
  (with_reducible show wpAny _ _ (call (Value.ref 91) [Value.ref _, Value.int _ _]) _ _ _); (with_unfolding_all refine' says_bag (c_draw _ _ _ _ _ _ _ _ _ _ ?kb ?kn) ?kU ?k1 ?k2 ?k3 ?k4 ?k5 ?kK ?kd ?ku ?_); walk_at "saysB"; (case kb => assumption); (case kn => decide);
  intro v' h' tk' F' kN' hp'; obtain ⟨r', b', t', t2', k', hv', ho', hr', hb'⟩ := hp'; subst hv'; (have N' := kN' _ ho'); clear kN'; (try dsimp only); (try k_fold)))
local macro_rules | `(tactic| walk_at "call ref") => `(tactic| (
  (with_reducible show wpAny _ _ (call (Value.ref 96) [Value.ref _]) _ _ _); (with_unfolding_all refine' says_bag (c_signs _ _ _ _ _ _ _ _ ?kb) ?kU ?k1 ?k2 ?k3 ?k4 ?k5 ?kK ?kd ?ku ?_); walk_at "saysB"; (case kb => assumption);
  intro v' h' tk' F' kN' hp'; obtain ⟨x', b', t', t2', k', hv', ho', hx', hb'⟩ := hp'; subst hv'; (have hnm' := sign_len hx'); (have N' := kN' _ ho'); clear kN'; (try dsimp only); (try k_fold)))
set_option maxHeartbeats 8000000 in
theorem c_value (w : World) (mean : ExcName → Option Value) (mg mb : Str → Option Value) (a0 : Addr) (b : Int) (tb : Tok) (k : Nat) (hb : 0 ≤ b ∧ b < 10 ^ 50) :
    Says 4 w mean mg mb 115 [.ref a0] [(a0, listO [.int b tb] k)] (fun _ v _ => ∃ d, IsLV v d ∧ LVOk d) := by
  have kf : Fill := by unfold Fill; k_fill; exact ⟨rfl, rfl⟩
  unfold Says
  clear kf
  intro dp un gd cn cs a ccd cl outer A₀ base h₀ L m s Q E B F X N T hk hdd hu hret
  walk_at "enter"
  k_steps
  all_goals refine hret _ _ _ (gsub_end (by assumption) (by assumption)) ?_
  · exact ⟨_, .none, trivial⟩
  · exact ⟨_, .int _ _, by show -100 ≤ _ ∧ _ < (100 : Int); omega⟩
  · exact ⟨_, .bool _, trivial⟩
  · exact ⟨_, .bool _, trivial⟩
  · exact ⟨_, .str _ _, sign_nm (by assumption)⟩
end Mine
end
section
open PySem PySem.W PyProof.Rows
set_option maxRecDepth 100000
namespace Mine
-- the entry of a def's call, the objects at hand kept in sight
local macro_rules | `(tactic| walk_at "enter") => `(tactic| (refine wpAny_call ?_; k_dflt ((refine' code_defG ?k1 ?k2 ?k3 ?k4 ?k5 ?kA ?kF ?kK ?k6 ?k7 ?k8 ?k9 ?kB ?_ ?c2 ?c3 ?c4 ?c5); (case kA => exact rfl); (case kF => exact rfl); (case kK => assumption); (case k1 => k_asm); (case k2 => k_asm); (case k3 => k_asm); (case k4 => k_asm); (case k5 => k_asm); (case k6 => k_is); (case k7 => k_is); (case k8 => ktr_room); (case k9 => exact BindsTo.of_eq rfl); (case c5 => decide); (case kB => exact locs rfl); (case c2 => exact rfl); (case c3 => exact rfl); (case c4 => exact rfl); k_whole; intro g' L' h' FG' F' N' B' X' T' kG'; (try dsimp only); (try k_lift B'); (try k_fold))))
local macro_rules | `(tactic| walk_at "saysB") => `(tactic| (
  (case k4 => k_asm); (case kU => k_updF); (case k1 => k_asm); (case k2 => k_asm); (case k3 => k_asm); (case k5 => k_asm); (case kK => first | exact rfl | assumption);
  (case kd => ktr_room); (case ku => ktr_units)))
local macro_rules | `(tactic| walk_at "call ref") => `(tactic| (
  (with_reducible show wpAny _ _ (call (Value.ref 91) [Value.ref _, Value.int _ _]) _ _ _); (with_unfolding_all refine' says_bag (c_draw _ _ _ _ _ _ _ _ _ _ ?kb ?kn) ?kU ?k1 ?k2 ?k3 ?k4 ?k5 ?kK ?kd ?ku ?_); walk_at "saysB"; (case kb => assumption); (case kn => decide);
  intro v' h' tk' F' kN' hp'; obtain ⟨r', b', t', t2', k', hv', ho', hr', hb'⟩ := hp'; subst hv'; (have N' := kN' _ ho'); clear kN'; (try dsimp only); (try k_fold)))
local macro_rules | `(tactic| walk_at "call ref") => `(tactic| (
  (with_reducible show wpAny _ _ (call (Value.ref 96) [Value.ref _]) _ _ _); (with_unfolding_all refine' says_bag (c_signs _ _ _ _ _ _ _ _ ?kb) ?kU ?k1 ?k2 ?k3 ?k4 ?k5 ?kK ?kd ?ku ?_); walk_at "saysB"; (case kb => assumption);
  intro v' h' tk' F' kN' hp'; obtain ⟨x', b', t', t2', k', hv', ho', hx', hb'⟩ := hp'; subst hv'; (have hnm' := sign_len hx'); (have N' := kN' _ ho'); clear kN'; (try dsimp only); (try k_fold)))
def wordsL : List Str := [Str.ofString "select", Str.ofString "table", Str.ofString "add", Str.ofString "token", Str.ofString "to", Str.ofString "key", Str.ofString "selects", Str.ofString "schema", Str.ofString "nan", Str.ofString "value", Str.ofString "in", Str.ofString "view"]
theorem word_at {r : Int} (h : 0 ≤ r ∧ r < 12) : wordsL.getD r.toNat Str.empty ∈ wordsL := by
  have hl : r.toNat < wordsL.length := by show r.toNat < 12; omega
  rw [List.getD_eq_getElem?_getD, List.getElem?_eq_getElem hl]
  exact List.getElem_mem hl
theorem word_len : ∀ x ∈ wordsL, x.length ≤ 7 := by decide +kernel
def capsL : List Str := [Str.ofString "Select", Str.ofString "Table", Str.ofString "Add", Str.ofString "Token", Str.ofString "To", Str.ofString "Key", Str.ofString "Selects", Str.ofString "Schema", Str.ofString "Nan", Str.ofString "Value", Str.ofString "In", Str.ofString "View"]
theorem cap_of : ∀ x ∈ wordsL, Txt.upper (Txt.slice x none (some 1)) ++ Txt.slice x (some 1) none ∈ capsL := by decide +kernel
/-- a name that the law may build -/
def NameT (x : Str) : Prop := SignT x ∨ x ∈ wordsL ∨ x ∈ capsL
local macro_rules | `(tactic| walk_at "storeName") => `(tactic| (
  (with_reducible show wpAny _ _ (storeName _ _ (Value.str (List.getD _ _ _) _)) _ _ _);
  (have hwd' := word_at (by assumption)); unfold wordsL at hwd'; (generalize (List.getD _ _ _ : Str) = wd' at hwd' ⊢); (have hwl' := word_len _ hwd')))
set_option maxHeartbeats 8000000 in
theorem c_name (w : World) (mean : ExcName → Option Value) (mg mb : Str → Option Value) (a0 : Addr) (b : Int) (tb : Tok) (k : Nat) (hb : 0 ≤ b ∧ b < 10 ^ 50) :
    Says 4 w mean mg mb 103 [.ref a0] [(a0, listO [.int b tb] k)] (fun _ v h' => ∃ x b' t t' k', v = .str x t ∧ h'.get? a0 = some (listO [.int b' t'] k') ∧ NameT x ∧ 0 ≤ b' ∧ b' < 10 ^ 50) := by
  have kf : Fill := by unfold Fill; k_fill; exact ⟨rfl, rfl⟩
  unfold Says
  clear kf
  intro dp un gd cn cs a ccd cl outer A₀ base h₀ L m s Q E B F X N T hk hdd hu hret
  walk_at "enter"
  k_steps
  all_goals refine hret _ _ _ (gsub_end (by assumption) (by assumption)) ⟨_, _, _, _, _, rfl, News.get (by assumption) (by k_mem), ?_, by assumption⟩
  · exact .inl (by assumption)
  · exact .inl (by assumption)
  · exact .inr (.inl (by assumption))
  · exact .inr (.inr (cap_of _ (by assumption)))
end Mine
end
section
open PySem PySem.W PyProof.Rows
set_option maxRecDepth 100000
namespace Mine
-- the entry of a def's call, the objects at hand kept in sight
local macro_rules | `(tactic| walk_at "enter") => `(tactic| (refine wpAny_call ?_; k_dflt ((refine' code_defG ?k1 ?k2 ?k3 ?k4 ?k5 ?kA ?kF ?kK ?k6 ?k7 ?k8 ?k9 ?kB ?_ ?c2 ?c3 ?c4 ?c5); (case kA => exact rfl); (case kF => exact rfl); (case kK => assumption); (case k1 => k_asm); (case k2 => k_asm); (case k3 => k_asm); (case k4 => k_asm); (case k5 => k_asm); (case k6 => k_is); (case k7 => k_is); (case k8 => ktr_room); (case k9 => exact BindsTo.of_eq rfl); (case c5 => decide); (case kB => exact locs rfl); (case c2 => exact rfl); (case c3 => exact rfl); (case c4 => exact rfl); k_whole; intro g' L' h' FG' F' N' B' X' T' kG'; (try dsimp only); (try k_lift B'); (try k_fold))))
local macro_rules | `(tactic| walk_at "enterC") => `(tactic| (refine wpAny_call ?_; k_dflt ((refine' enter_cells ?k1 ?k2 ?k3 ?k4 ?k5 ?kA ?kF ?kK ?k6 ?k7 ?k8 ?k9 ?kB ?kD ?_ ?c2 ?c3 ?c4); (case kA => exact rfl); (case kF => exact rfl); (case kK => assumption); (case k1 => k_asm); (case k2 => k_asm); (case k3 => k_asm); (case k4 => k_asm); (case k5 => k_asm); (case k6 => k_is); (case k7 => k_is); (case k8 => ktr_room); (case k9 => exact BindsTo.of_eq rfl); (case kB => exact rfl); (case kD => decide +kernel); (case c2 => exact rfl); (case c3 => exact rfl); (case c4 => exact rfl); k_whole; intro g' L' h' tk' cells' FG' F' N' Y' B' X' T' kG' l1; (try k_lt l1); k_cells Y'; (try simp only [List.cons_append, List.nil_append] at N'); (try dsimp only); (try k_lift B'); (try k_fold))))
def notInT (x y : Str) : Bool := (Builtin.Str.occurrences x y 0 x.length 1).isEmpty
def smallT : Str := Str.ofString "abcdefghijklmnopqrstuvwxyz"
def digitT : Str := Str.ofString "0123456789_"
def oddC (c : Nat) : Bool := notInT smallT ⟨#[c]⟩ && notInT digitT ⟨#[c]⟩
local macro_rules | `(tactic| walk_at "eval ListComp") => `(tactic| (k_dflt (refine listComp_str (by k_asm) (by with_unfolding_all rfl) (by decide) (by rfl) (by decide) (by rfl) ?_)))
local macro_rules | `(tactic| walk_at "Exists") => `(tactic| (
  (refine ⟨_, _, _, rfl, rfl, by assumption, by assumption, by rw [sizeLine_eq]; exact Nat.le_trans (show _ ≤ 1000 by assumption) (by decide), fun g' => comp_filter oddC (fun c' t' I' oI' C' oC' D' m' ys' h' tk' E' hC' hx' F' N' off' ne' => ?_) (fun ys' hS' => ?_)⟩);
  (all_goals (try (simp only [LCg.Off3, and_true] at off'))); (all_goals (try k_fold))))
theorem canLay_strs : ∀ xs : List Str, (∀ x ∈ xs, PyData.strOk x = true) → PyData.canLayAll0 (xs.map PyData.str) = true
  | [], _ => rfl
  | x :: r, h => by
    simp only [List.map_cons, PyData.canLayAll0, PyData.canLay0, h x (.head _), canLay_strs r fun y hy => h y (.tail _ hy), Bool.and_self]
theorem depth_strs : ∀ xs : List Str, PyData.depthAll (xs.map PyData.str) = 0
  | [] => rfl
  | x :: r => by simp [PyData.depthAll, PyData.depth, depth_strs r]
theorem shaped_strs (xs : List Str) (h : ∀ x ∈ xs, PyData.strOk x = true) : SeqAt.shaped (.list (xs.map PyData.str)) = true := by
  simp [SeqAt.shaped, PyData.canLay0, PyData.depth, canLay_strs xs h, depth_strs]
theorem eqv_nil : ∀ xs : List Str, PyData.eqv (.list (xs.map PyData.str)) (.list []) = xs.isEmpty
  | [] => rfl
  | _ :: _ => rfl
theorem eq_nil {prog : Program} {w : World} {A : Around} {E : Value → Shared → Prop} {s : Shared} {a b : Addr} {vs : List Value} {xs : List Str} {Q : Value → Shared → Prop} (ha : s.heap.IsList a vs.toArray) (hS : StrsAre vs xs) (hok : ∀ x ∈ xs, PyData.strOk x = true)
    (hb : s.heap.IsList b ([] : List Value).toArray) (hu : A.units + 64 < cLine) (h : Q (.bool xs.isEmpty) s) : wpAny (model prog w) A (compareOp .Eq (.ref a) (.ref b)) Q E s :=
  eq_dataH (reads_newData ha hS.carried) (reads_newData hb .nil) (shaped_strs xs hok) rfl hu (by rw [eqv_nil]; exact h)
theorem ok_signs {nm : Str} (h : PyData.strOk nm = true) : ∀ x ∈ (nm.cps.toList.filter oddC).map (fun c => (⟨#[c]⟩ : Str)), PyData.strOk x = true := by
  intro x hx
  obtain ⟨c, hc, rfl⟩ := List.mem_map.mp hx
  unfold PyData.strOk at h
  rw [← Array.all_toList, List.all_eq_true] at h
  have := h c ((List.mem_filter.mp hc).1)
  simpa [PyData.strOk] using this
local macro_rules | `(tactic| walk_at "Eq") => `(tactic| ((with_reducible show oddC _ = _); unfold oddC notInT smallT digitT; simp [*]; done))
local macro_rules | `(tactic| walk_at "compareOp Eq ref ref") => `(tactic| ((refine' eq_nil ?kl ?ks ?ko ?ke ?ku ?_); (case kl => exact News.isList (by assumption) (.tail _ (.head _))); (case ks => assumption); (case ko => exact ok_signs (by assumption)); (case ke => exact News.isList (by assumption) (.head _)); (case ku => ktr_units)))
/-- what the law calls plain -/
def plainB (nm : Str) : Bool :=
  !(nm == Str.ofString "") && !([Str.ofString "select", Str.ofString "table", Str.ofString "add", Str.ofString "token", Str.ofString "to", Str.ofString "schema", Str.ofString "nan", Str.ofString "in", Str.ofString "view"].any fun x => x == nm) &&
  !(notInT smallT (Txt.item nm 0)) && ((nm.cps.toList.filter oddC).map fun c => (⟨#[c]⟩ : Str)).isEmpty
set_option maxHeartbeats 8000000 in
theorem c_plain (w : World) (mean : ExcName → Option Value) (mg mb : Str → Option Value) (nm : Str) (t : Tok) (hn : NmOk nm) :
    Says 3 w mean mg mb 108 [.str nm t] [] (fun _ v _ => v = .bool (plainB nm)) := by
  have kf : Fill := by unfold Fill; k_fill; exact ⟨rfl, rfl⟩
  unfold Says
  clear kf
  intro dp un gd cn cs a ccd cl outer A₀ base h₀ L m s Q E B F X N T hk hdd hu hret
  obtain ⟨hn, hnl, hok⟩ := hn
  walk_at "enterC"
  k_steps
  all_goals refine hret _ _ _ (gsub_end (by assumption) (by assumption)) (congrArg Value.bool ?_)
  all_goals unfold plainB notInT smallT
  all_goals simp [*]
end Mine
end
section
open PySem PySem.W PyProof.Rows PySem.Calls
set_option maxRecDepth 100000
namespace Mine
/-- the signs of a text from a place on -/
structure Tail (x : Str) (i : Int) (l : List Nat) : Prop where
  nn : 0 ≤ i
  le : i ≤ x.length
  eq : x.cps.toList.drop i.toNat = l
theorem Tail.start (x : Str) : Tail x 0 x.cps.toList := ⟨Int.le_refl _, Int.natCast_nonneg _, rfl⟩
theorem Tail.lt {x : Str} {i : Int} {c : Nat} {l : List Nat} (h : Tail x i (c :: l)) : i < x.length := by
  refine Int.lt_of_not_ge fun hge => ?_
  have e := h.eq
  rw [List.drop_of_length_le (by rw [Array.length_toList]; have : (x.length : Int) = (x.cps.size : Int) := rfl; have := h.nn; omega)] at e
  cases e
theorem Tail.end {x : Str} {i : Int} (h : Tail x i []) : i = x.length := by
  have e := congrArg List.length h.eq
  rw [List.length_drop, Array.length_toList] at e
  have : (x.length : Int) = (x.cps.size : Int) := rfl
  have h1 := h.nn
  have h2 := h.le
  simp only [List.length_nil] at e
  omega
theorem Tail.item {x : Str} {i : Int} {c : Nat} {l : List Nat} (h : Tail x i (c :: l)) : x.cps[i.toNat]? = some c := by
  have e : (x.cps.toList.drop i.toNat)[0]? = some c := by rw [h.eq]; rfl
  rw [List.getElem?_drop, Array.getElem?_toList] at e
  exact e
theorem Tail.next {x : Str} {i : Int} {c : Nat} {l : List Nat} (h : Tail x i (c :: l)) : Tail x (i + 1) l := by
  have h1 := h.nn
  have h2 := h.lt
  refine ⟨by omega, by omega, ?_⟩
  rw [show (i + 1).toNat = i.toNat + 1 from by omega, ← List.drop_drop, h.eq]
  rfl
theorem Tail.next2 {x : Str} {i : Int} {c d : Nat} {l : List Nat} (h : Tail x i (c :: d :: l)) : Tail x (i + 2) l := by
  have := h.next.next
  rwa [show i + 1 + 1 = i + 2 from by omega] at this
theorem Tail.slice {x : Str} {i : Int} {l : List Nat} (h : Tail x i l) : Txt.slice x (some i) (some (i + 2)) = ⟨(l.take 2).toArray⟩ := by
  have hl : (x.cps.toList.length : Int) = (x.length : Int) := by rw [Array.length_toList]; rfl
  have h1 := h.nn
  have h2 := h.le
  by_cases h3 : i + 2 ≤ x.length
  · have := eq_of_beq (PyProof.Rows.slice_closes (x := x) (i := i) (j := i + 2) ⟨h1, by omega, by omega⟩)
    rw [this, h.eq, show (i + 2 - i).toNat = 2 from by omega]
  · have e : Txt.slice x (some i) (some (i + 2)) = Txt.slice x (some i) (some (x.length : Int)) := by
      have : Builtin.Str.strSliceIndices (some i) (some (i + 2)) 1 x.length = Builtin.Str.strSliceIndices (some i) (some (x.length : Int)) 1 x.length := by
        unfold Builtin.Str.strSliceIndices
        dsimp only
        rw [if_neg (show ¬ i < 0 by omega), if_neg (show ¬ i + 2 < 0 by omega), if_neg (show ¬ (x.length : Int) < 0 by omega), show min (i + 2) (x.length : Int) = (x.length : Int) from by omega, Int.min_self]
        rfl
      unfold Txt.slice
      rw [this]
    have := eq_of_beq (PyProof.Rows.slice_closes (x := x) (i := i) (j := x.length) ⟨h1, by omega, by omega⟩)
    rw [e, this, h.eq, List.take_of_length_le, List.take_of_length_le]
    · rw [← h.eq, List.length_drop]; omega
    · rw [← h.eq, List.length_drop]; omega
/-- what the law's reader tells of a text, item by item: the sign that opened it and the text -/
def Sep (l : List Nat) : Prop := l = [] ∨ ∃ r, l = 44 :: r
inductive Rd : List Nat → List (Str × Str) → Prop
  | nil : Rd [] []
  | comma {r ts} : Rd r ts → Rd (44 :: r) ts
  | blank {r ts} : Rd r ts → Rd (32 :: r) ts
  | dq (b : List Nat) {r ts} : Sep r → Rd r ts → Rd (34 :: (StrLaws.dbl 34 b ++ 34 :: r)) ((Str.ofString "\"", ⟨b.toArray⟩) :: ts)
  | sq (b : List Nat) {r ts} : Sep r → Rd r ts → Rd (39 :: (StrLaws.dbl 39 b ++ 39 :: r)) ((Str.ofString "'", ⟨b.toArray⟩) :: ts)
  | bare (c : Nat) (b : List Nat) {r ts} : (∀ d ∈ c :: b, d ≠ 44 ∧ d ≠ 32) → c ≠ 34 → c ≠ 39 → Sep r → Rd r ts → Rd (c :: (b ++ r)) ((Str.ofString "", ⟨(c :: b).toArray⟩) :: ts)
/-- the values are tuples of two texts, made by the call -/
inductive TupsAre (tl : List (Addr × Obj)) : List Value → List (Str × Str) → Prop
  | nil : TupsAre tl [] []
  | cons {a : Addr} {q b : Str} {t1 t2 : Tok} {vs ds} : (a, tupO [.str q t1, .str b t2]) ∈ tl → TupsAre tl vs ds → TupsAre tl (.ref a :: vs) ((q, b) :: ds)
theorem TupsAre.more {tl tl' : List (Addr × Obj)} (hs : ∀ p ∈ tl, p ∈ tl') : ∀ {vs ds}, TupsAre tl vs ds → TupsAre tl' vs ds
  | _, _, .nil => .nil
  | _, _, .cons hm r => .cons (hs _ hm) (r.more hs)
theorem TupsAre.snoc {tl : List (Addr × Obj)} {a : Addr} {q b : Str} {t1 t2 : Tok} (hm : (a, tupO [.str q t1, .str b t2]) ∈ tl) : ∀ {vs ds}, TupsAre tl vs ds → TupsAre tl (vs ++ [.ref a]) (ds ++ [(q, b)])
  | _, _, .nil => .cons hm .nil
  | _, _, .cons h r => .cons h (r.snoc hm)
section
variable {prog : Program} {w : World} {A : Around} {E : Value → Shared → Prop} {s : Shared}
end
end Mine
end
section
open PySem PySem.W PyProof.Rows PySem.Calls
set_option maxRecDepth 100000
namespace Mine
section
variable {prog : Program} {w : World} {A : Around} {E : Value → Shared → Prop} {s : Shared} {env : Env} {h₀ : Heap} {L : Addr}
theorem add_one {x : Str} {c : Nat} {t u : Tok} {Q : Value → Shared → Prop} (hx : x.length ≤ 10000000) (h : ∀ t' k, Q (.str (x ++ ⟨#[c]⟩) t') { s with toks := k }) :
    wpAny (model prog w) A (binaryOp .Add (.str x t) (.str ⟨#[c]⟩ u)) Q E s :=
  KXadd.add (K := 10000000) (L := 1) hx (Nat.le_refl 1) (by omega) fun t' k _ => h t' k
theorem item_tail {value slice : Expr} {x : Str} {t u : Tok} {i : Int} {c : Nat} {l : List Nat} {Q : Value → Shared → Prop} (h : Tail x i (c :: l)) (hx : x.length ≤ 10000000) (hq : Q (.str ⟨#[c]⟩ s.toks) { s with toks := s.toks + 1 })
    (hs : subscripted slice false (.str x t) (.int i u) = operate [.str x t, .int i u] (getItem (.str x t) (.int i u)) := by with_unfolding_all rfl)
    (ht : ∀ r, letTemporaryGo value (.str x t) r = pure () := by intro _; with_unfolding_all rfl) :
    wpAny (model prog w) A (subscriptTail value slice (.str x t) (.int i u)) Q E s := by
  have h1 := h.nn
  have h2 := h.lt
  refine item_str (fitsSsize_of (N := 9223372036854775808) (by omega) (by omega) (Int.le_refl _)) (by omega) h2 (fun _ => ?_) hs ht
  rw [item_meets h1 h.item]
  exact hq
/-- the places that a turn of a reading loop leaves -/
def TEnd (h₀ : Heap) (L : Addr) (s : Shared) (m₀ : Str → Option Value) (news : List (Addr × Obj)) (i : Int) (told : Str) (s₃ : Shared) : Prop :=
  ∃ h' tk m' ti tt, s₃ = { s with heap := h', toks := tk } ∧ Fr h₀ L h' m' ∧ News h₀ L h' news ∧ m' (Str.ofString "at") = some (.int i ti) ∧ m' (Str.ofString "told") = some (.str told tt) ∧
    (∀ y, y ≠ Str.ofString "told" → y ≠ Str.ofString "at" → m' y = m₀ y)
theorem TEnd.intro {h₀ h' : Heap} {L : Addr} {s : Shared} {m₀ m' : Str → Option Value} {news news' : List (Addr × Obj)} {i : Int} {told : Str} {tk ti tt : Nat} (F : Fr h₀ L h' m') (N : News h₀ L h' news') (hs : ∀ p ∈ news, p ∈ news')
    (h1 : m' (Str.ofString "at") = some (.int i ti)) (h2 : m' (Str.ofString "told") = some (.str told tt)) (h3 : ∀ y, y ≠ Str.ofString "told" → y ≠ Str.ofString "at" → m' y = m₀ y) :
    TEnd h₀ L s m₀ news i told { s with heap := h', toks := tk } := ⟨h', tk, m', ti, tt, rfl, F, fun p hp => N p (hs p hp), h1, h2, h3⟩
def TPost (h₀ : Heap) (L : Addr) (s : Shared) (m₀ : Str → Option Value) (news : List (Addr × Obj)) (i : Int) (told : Str) (f : Flow) (s₃ : Shared) : Prop :=
  match f with
  | .next => TEnd h₀ L s m₀ news i told s₃
  | .cont => TEnd h₀ L s m₀ news i told s₃
  | _ => False
abbrev toldM (m₀ : Str → Option Value) (i : Int) (ti : Tok) (told : Str) (tt : Tok) : Str → Option Value :=
  fun y => if y = Str.ofString "told" then some (.str told tt) else if y = Str.ofString "at" then some (.int i ti) else m₀ y
theorem toldM_eq {m₀ m' : Str → Option Value} {i : Int} {ti tt : Tok} {told : Str} (h1 : m' (Str.ofString "at") = some (.int i ti)) (h2 : m' (Str.ofString "told") = some (.str told tt)) (h3 : ∀ y, y ≠ Str.ofString "told" → y ≠ Str.ofString "at" → m' y = m₀ y) :
    m' = toldM m₀ i ti told tt := by
  funext y
  unfold toldM
  by_cases e1 : y = Str.ofString "told"
  · rw [if_pos e1, e1, h2]
  · rw [if_neg e1]
    by_cases e2 : y = Str.ofString "at"
    · rw [if_pos e2, e2, h1]
    · rw [if_neg e2]; exact h3 y e1 e2
/-- a reading loop: a word over the place, the text told and the signs left -/
theorem while_told {test : Expr} {body : List Stmt} {pos : Pos} {m₀ : Str → Option Value} {news : List (Addr × Obj)} {Q : Flow → Shared → Prop} (Inv : Int → Str → List Nat → Prop) {i₀ : Int} {told₀ : Str} {b₀ : List Nat} {t1 t2 : Tok}
    (F : Fr h₀ L s.heap m₀) (N : News h₀ L s.heap news) (hat : m₀ (Str.ofString "at") = some (.int i₀ t1)) (htold : m₀ (Str.ofString "told") = some (.str told₀ t2)) (h0 : Inv i₀ told₀ b₀)
    (turn : ∀ i ti told tt b h tk, Inv i told b → Fr h₀ L h (toldM m₀ i ti told tt) → News h₀ L h news →
      (∃ i' told' b', Inv i' told' b' ∧ b'.length < b.length ∧ wpAny (model prog w) A (isTrue test env (eval test env)) (fun ok s₂ => ok = true ∧ wpAny (model prog w) A (execs body env) (TPost h₀ L s m₀ news i' told') E s₂) E { s with heap := h, toks := tk }) ∨
      wpAny (model prog w) A (isTrue test env (eval test env)) (fun ok s₂ => ok = false ∧ Q .next s₂) E { s with heap := h, toks := tk })
    (hE : PassesOwn (model prog w) A env E := by passes_own) :
    wpAny (model prog w) A (exec (.While test body [] pos) env) Q E s := by
  refine While_inv2 (fun n m nx => ∃ i ti told tt b, nx = news ∧ n = b.length ∧ Inv i told b ∧ m = toldM m₀ i ti told tt) F N ⟨i₀, t1, told₀, t2, b₀, rfl, rfl, h0, ?_⟩ ?_ hE
  · exact toldM_eq hat htold fun _ _ _ => rfl
  · rintro n m₁ nx h tk F₁ N₁ ⟨i, ti, told, tt, b, rfl, rfl, hi, rfl⟩
    rcases turn i ti told tt b h tk hi F₁ N₁ with ⟨i', told', b', hi', hlt, hw⟩ | hw
    · refine wpAny_mono hw (fun ok s₂ p => ?_) fun _ _ x => x
      obtain ⟨rfl, p⟩ := p
      simp only [if_true]
      refine wpAny_mono p (fun f s₃ q => ?_) fun _ _ x => x
      have fin : TEnd h₀ L s m₀ nx i' told' s₃ → ∃ h' tk m₂ news₂ n', s₃ = { s with heap := h', toks := tk } ∧ Fr h₀ L h' m₂ ∧ News h₀ L h' news₂ ∧ n' < b.length ∧ ∃ i ti told tt b, news₂ = nx ∧ n' = b.length ∧ Inv i told b ∧ m₂ = toldM m₀ i ti told tt := by
        rintro ⟨h', tk', m', ti', tt', e, F', N', e1, e2, e3⟩
        exact ⟨h', tk', m', nx, b'.length, e, F', N', hlt, i', ti', told', tt', b', rfl, rfl, hi', toldM_eq e1 e2 e3⟩
      cases f with
      | next => exact fin q
      | cont => exact fin q
      | brk => exact q.elim
      | ret v => exact q.elim
    · refine wpAny_mono hw (fun ok s₂ p => ?_) fun _ _ x => x
      obtain ⟨rfl, p⟩ := p
      simpa using p
theorem snoc_text (a : List Nat) (c : Nat) : (⟨a.toArray⟩ : Str) ++ ⟨#[c]⟩ = ⟨(a ++ [c]).toArray⟩ := by
  refine Str.ext' ?_
  rw [Str.cps_append]
  simp
theorem dbl_ge (q : Nat) : ∀ b : List Nat, b.length ≤ (StrLaws.dbl q b).length
  | [] => Nat.le_refl _
  | c :: b => by
    have := dbl_ge q b
    have e : StrLaws.dbl q (c :: b) = if c = q then c :: c :: StrLaws.dbl q b else c :: StrLaws.dbl q b := rfl
    rw [e]
    by_cases h : c = q
    · rw [if_pos h]; simp only [List.length_cons]; omega
    · rw [if_neg h]; simp only [List.length_cons]; omega
theorem Tail.len {x : Str} {i : Int} {l : List Nat} (h : Tail x i l) : l.length ≤ x.cps.size := by
  rw [← h.eq, List.length_drop, Array.length_toList]; omega
theorem sign_mul (q : Nat) : Txt.mul (⟨#[q]⟩ : Str) 2 = ⟨#[q, q]⟩ := rfl
/-- within quotes: the sign that stands twice is told once -/
theorem while_quoted {test : Expr} {body : List Stmt} {pos : Pos} {m₀ : Str → Option Value} {news : List (Addr × Obj)} {Q : Flow → Shared → Prop} {x : Str} {q : Nat} {B r : List Nat} {i₀ : Int} {told₀ sg : Str} {t1 t2 t3 : Tok}
    (h0 : Tail x i₀ (StrLaws.dbl q B ++ q :: r)) (hr : Sep r) (hx : x.length ≤ 10000000) (hq : q ≠ 44) (F : Fr h₀ L s.heap m₀) (N : News h₀ L s.heap news) (hat : m₀ (Str.ofString "at") = some (.int i₀ t1)) (htold : m₀ (Str.ofString "told") = some (.str told₀ t2)) (hsign : m₀ (Str.ofString "sign") = some (.str sg t3)) (hsg : sg = ⟨#[q]⟩) (ht0 : told₀ = ⟨#[]⟩)
    (twice : ∀ i ti (a : List Nat) tt l h tk, Tail x i (q :: q :: l) → (⟨a.toArray⟩ : Str).length ≤ 10000000 → ((⟨#[q]⟩ : Str) == sg) = true → ((⟨#[q]⟩ : Str) != sg) = false → (Txt.slice x (some i) (some (i + 2)) == Txt.mul sg 2) = true → Fr h₀ L h (toldM m₀ i ti ⟨a.toArray⟩ tt) → News h₀ L h news →
      wpAny (model prog w) A (isTrue test env (eval test env)) (fun ok s₂ => ok = true ∧ wpAny (model prog w) A (execs body env) (TPost h₀ L s m₀ news (i + 2) ((⟨a.toArray⟩ : Str) ++ ⟨#[q]⟩)) E s₂) E { s with heap := h, toks := tk })
    (once : ∀ i ti (a : List Nat) tt c l h tk, Tail x i (c :: l) → (⟨a.toArray⟩ : Str).length ≤ 10000000 → ((⟨#[c]⟩ : Str) == sg) = false → ((⟨#[c]⟩ : Str) != sg) = true → Fr h₀ L h (toldM m₀ i ti ⟨a.toArray⟩ tt) → News h₀ L h news →
      wpAny (model prog w) A (isTrue test env (eval test env)) (fun ok s₂ => ok = true ∧ wpAny (model prog w) A (execs body env) (TPost h₀ L s m₀ news (i + 1) ((⟨a.toArray⟩ : Str) ++ ⟨#[c]⟩)) E s₂) E { s with heap := h, toks := tk })
    (fin : ∀ i ti tt h tk, Tail x i (q :: r) → ((⟨#[q]⟩ : Str) == sg) = true → ((⟨#[q]⟩ : Str) != sg) = false → (Txt.slice x (some i) (some (i + 2)) == Txt.mul sg 2) = false → Fr h₀ L h (toldM m₀ i ti ⟨B.toArray⟩ tt) → News h₀ L h news →
      wpAny (model prog w) A (isTrue test env (eval test env)) (fun ok s₂ => ok = false ∧ Q .next s₂) E { s with heap := h, toks := tk })
    (hE : PassesOwn (model prog w) A env E := by passes_own) :
    wpAny (model prog w) A (exec (.While test body [] pos) env) Q E s := by
  have hlen : ∀ a b : List Nat, a ++ b = B → (⟨a.toArray⟩ : Str).length ≤ 10000000 := by
    intro a b e
    have h1 := h0.len
    have h2 := dbl_ge q B
    have h3 : (x.length : Nat) = x.cps.size := rfl
    have h4 : (⟨a.toArray⟩ : Str).length = a.length := by show a.toArray.size = _; simp
    rw [List.length_append] at h1
    have h5 : a.length ≤ B.length := by rw [← e, List.length_append]; omega
    omega
  subst hsg
  have hsame : ((⟨#[q]⟩ : Str) == ⟨#[q]⟩) = true := beq_self_eq_true _
  refine while_told (fun i told b => ∃ a : List Nat, told = ⟨a.toArray⟩ ∧ a ++ b = B ∧ Tail x i (StrLaws.dbl q b ++ q :: r)) (b₀ := B) F N hat htold ⟨[], ht0, rfl, h0⟩ ?_ hE
  rintro i ti told tt b h tk ⟨a, rfl, hb, hT⟩ F₁ N₁
  cases b with
  | nil =>
    rw [List.append_nil] at hb
    subst hb
    have hT' : Tail x i (q :: r) := hT
    refine .inr (fin i ti tt h tk hT' hsame (congrArg not hsame) ?_ F₁ N₁)
    rw [hT'.slice, sign_mul]
    refine beq_eq_false_iff_ne.2 fun e => ?_
    have e := congrArg (fun x : Str => x.cps.toList) e
    rcases hr with rfl | ⟨l, rfl⟩
    · simp at e
    · simp at e; exact hq e.symm
  | cons c b =>
    by_cases hc : c = q
    · subst hc
      have hT' : Tail x i (c :: c :: (StrLaws.dbl c b ++ c :: r)) := by
        have e : StrLaws.dbl c (c :: b) = c :: c :: StrLaws.dbl c b := if_pos rfl
        rw [e] at hT; exact hT
      exact .inl ⟨i + 2, _, b, ⟨a ++ [c], snoc_text a c, by rw [List.append_assoc]; exact hb, hT'.next2⟩, Nat.lt_succ_self _, twice i ti a tt _ h tk hT' (hlen a _ hb) hsame (congrArg not hsame) (by rw [hT'.slice, sign_mul]; exact beq_self_eq_true _) F₁ N₁⟩
    · have hT' : Tail x i (c :: (StrLaws.dbl q b ++ q :: r)) := by
        have e : StrLaws.dbl q (c :: b) = c :: StrLaws.dbl q b := if_neg hc
        rw [e] at hT; exact hT
      have hne : ((⟨#[c]⟩ : Str) == ⟨#[q]⟩) = false := beq_eq_false_iff_ne.2 fun e => hc (by have e := congrArg (fun x : Str => x.cps.toList) e; simpa using e)
      exact .inl ⟨i + 1, _, b, ⟨a ++ [c], snoc_text a c, by rw [List.append_assoc]; exact hb, hT'.next⟩, Nat.lt_succ_self _, once i ti a tt c _ h tk hT' (hlen a _ hb) hne (congrArg not hne) F₁ N₁⟩
theorem not_sep {c : Nat} (h : c ≠ 44 ∧ c ≠ 32) : ([Str.ofString ",", Str.ofString " "].any fun x => x == (⟨#[c]⟩ : Str)) = false := by
  have e1 : (Str.ofString "," == (⟨#[c]⟩ : Str)) = false := beq_eq_false_iff_ne.2 fun e => h.1 (List.cons.inj (show [44] = [c] from congrArg (fun x : Str => x.cps.toList) e)).1.symm
  have e2 : (Str.ofString " " == (⟨#[c]⟩ : Str)) = false := beq_eq_false_iff_ne.2 fun e => h.2 (List.cons.inj (show [32] = [c] from congrArg (fun x : Str => x.cps.toList) e)).1.symm
  simp only [List.any_cons, List.any_nil, e1, e2, Bool.or_false]
theorem not_quo {c : Nat} (h1 : c ≠ 34) (h2 : c ≠ 39) : ([Str.ofString "\"", Str.ofString "'"].any fun x => x == (⟨#[c]⟩ : Str)) = false := by
  have e1 : (Str.ofString "\"" == (⟨#[c]⟩ : Str)) = false := beq_eq_false_iff_ne.2 fun e => h1 (List.cons.inj (show [34] = [c] from congrArg (fun x : Str => x.cps.toList) e)).1.symm
  have e2 : (Str.ofString "'" == (⟨#[c]⟩ : Str)) = false := beq_eq_false_iff_ne.2 fun e => h2 (List.cons.inj (show [39] = [c] from congrArg (fun x : Str => x.cps.toList) e)).1.symm
  simp only [List.any_cons, List.any_nil, e1, e2, Bool.or_false]
theorem is_sep : ([Str.ofString ",", Str.ofString " "].any fun x => x == (⟨#[44]⟩ : Str)) = true := rfl
/-- a bare word -/
theorem while_bare {test : Expr} {body : List Stmt} {pos : Pos} {m₀ : Str → Option Value} {news : List (Addr × Obj)} {Q : Flow → Shared → Prop} {x : Str} {B r : List Nat} {i₀ : Int} {told₀ : Str} {t1 t2 : Tok}
    (h0 : Tail x i₀ (B ++ r)) (hx : x.length ≤ 10000000) (hB : ∀ d ∈ B, d ≠ 44 ∧ d ≠ 32) (hr : Sep r) (F : Fr h₀ L s.heap m₀) (N : News h₀ L s.heap news) (hat : m₀ (Str.ofString "at") = some (.int i₀ t1)) (htold : m₀ (Str.ofString "told") = some (.str told₀ t2)) (ht0 : told₀ = ⟨#[]⟩)
    (step : ∀ i ti (a : List Nat) tt c l h tk, Tail x i (c :: l) → i < x.length → (⟨a.toArray⟩ : Str).length ≤ 10000000 → ([Str.ofString ",", Str.ofString " "].any fun x => x == (⟨#[c]⟩ : Str)) = false → Fr h₀ L h (toldM m₀ i ti ⟨a.toArray⟩ tt) → News h₀ L h news →
      wpAny (model prog w) A (isTrue test env (eval test env)) (fun ok s₂ => ok = true ∧ wpAny (model prog w) A (execs body env) (TPost h₀ L s m₀ news (i + 1) ((⟨a.toArray⟩ : Str) ++ ⟨#[c]⟩)) E s₂) E { s with heap := h, toks := tk })
    (fin0 : ∀ i ti tt h tk, r = [] → Tail x i [] → i = x.length → Fr h₀ L h (toldM m₀ i ti ⟨B.toArray⟩ tt) → News h₀ L h news →
      wpAny (model prog w) A (isTrue test env (eval test env)) (fun ok s₂ => ok = false ∧ Q .next s₂) E { s with heap := h, toks := tk })
    (fin1 : ∀ i ti tt l h tk, r = 44 :: l → Tail x i (44 :: l) → i < x.length → ([Str.ofString ",", Str.ofString " "].any fun x => x == (⟨#[44]⟩ : Str)) = true → Fr h₀ L h (toldM m₀ i ti ⟨B.toArray⟩ tt) → News h₀ L h news →
      wpAny (model prog w) A (isTrue test env (eval test env)) (fun ok s₂ => ok = false ∧ Q .next s₂) E { s with heap := h, toks := tk })
    (hE : PassesOwn (model prog w) A env E := by passes_own) :
    wpAny (model prog w) A (exec (.While test body [] pos) env) Q E s := by
  have hlen : ∀ a b : List Nat, a ++ b = B → (⟨a.toArray⟩ : Str).length ≤ 10000000 := by
    intro a b e
    have h1 := h0.len
    have h3 : (x.length : Nat) = x.cps.size := rfl
    have h4 : (⟨a.toArray⟩ : Str).length = a.length := by show a.toArray.size = _; simp
    rw [List.length_append] at h1
    have h5 : a.length ≤ B.length := by rw [← e, List.length_append]; omega
    omega
  refine while_told (fun i told b => ∃ a : List Nat, told = ⟨a.toArray⟩ ∧ a ++ b = B ∧ Tail x i (b ++ r)) (b₀ := B) F N hat htold ⟨[], ht0, rfl, h0⟩ ?_ hE
  rintro i ti told tt b h tk ⟨a, rfl, hb, hT⟩ F₁ N₁
  cases b with
  | nil =>
    rw [List.append_nil] at hb
    subst hb
    rcases hr with hr | ⟨l, hr⟩
    · exact .inr (fin0 i ti tt h tk hr (by rw [hr] at hT; exact hT) (Tail.end (by rw [hr] at hT; exact hT)) F₁ N₁)
    · exact .inr (fin1 i ti tt l h tk hr (by rw [hr] at hT; exact hT) (Tail.lt (c := 44) (l := l) (by rw [hr] at hT; exact hT)) is_sep F₁ N₁)
  | cons c b =>
    have hc := hB c (by rw [← hb]; exact List.mem_append_right _ (.head _))
    exact .inl ⟨i + 1, _, b, ⟨a ++ [c], snoc_text a c, by rw [List.append_assoc]; exact hb, hT.next⟩, Nat.lt_succ_self _, step i ti a tt c _ h tk hT hT.lt (hlen a _ hb) (not_sep hc) F₁ N₁⟩
/-- what a turn of the outer loop leaves -/
def REnd (h₀ : Heap) (L : Addr) (s : Shared) (m₀ : Str → Option Value) (lf : Addr) (x : Str) (all : List (Str × Str)) (r : List Nat) (ts : List (Str × Str)) (s₃ : Shared) : Prop :=
  ∃ h' tk m' i ti vs k tl ds, s₃ = { s with heap := h', toks := tk } ∧ Fr h₀ L h' m' ∧ News h₀ L h' ((lf, listO vs k) :: tl) ∧ m' (Str.ofString "at") = some (.int i ti) ∧
    (∀ y, y ≠ Str.ofString "at" → y ≠ Str.ofString "sign" → y ≠ Str.ofString "told" → m' y = m₀ y) ∧ Tail x i r ∧ TupsAre tl vs ds ∧ (∀ p ∈ tl, p.1 ≠ lf) ∧ ds ++ ts = all
def RPost (h₀ : Heap) (L : Addr) (s : Shared) (m₀ : Str → Option Value) (lf : Addr) (x : Str) (all : List (Str × Str)) (r : List Nat) (ts : List (Str × Str)) (f : Flow) (s₃ : Shared) : Prop :=
  match f with
  | .next => REnd h₀ L s m₀ lf x all r ts s₃
  | .cont => REnd h₀ L s m₀ lf x all r ts s₃
  | _ => False
abbrev readM (m₀ u : Str → Option Value) (i : Int) (ti : Tok) : Str → Option Value :=
  fun y => if y = Str.ofString "at" then some (.int i ti) else if y = Str.ofString "sign" then u y else if y = Str.ofString "told" then u y else m₀ y
theorem readM_eq {m₀ m' : Str → Option Value} {i : Int} {ti : Tok} (h1 : m' (Str.ofString "at") = some (.int i ti)) (h3 : ∀ y, y ≠ Str.ofString "at" → y ≠ Str.ofString "sign" → y ≠ Str.ofString "told" → m' y = m₀ y) : m' = readM m₀ m' i ti := by
  funext y
  unfold readM
  by_cases e1 : y = Str.ofString "at"
  · rw [if_pos e1, e1, h1]
  · rw [if_neg e1]
    by_cases e2 : y = Str.ofString "sign"
    · rw [if_pos e2]
    · rw [if_neg e2]
      by_cases e3 : y = Str.ofString "told"
      · rw [if_pos e3]
      · rw [if_neg e3]; exact h3 y e1 e2 e3
/-- the outer loop, item by item -/
theorem while_read {test : Expr} {body : List Stmt} {pos : Pos} {m₀ : Str → Option Value} {Q : Flow → Shared → Prop} {x : Str} {lf : Addr} {all : List (Str × Str)} {t1 : Tok} {k₀ : Nat}
    (h0 : Rd x.cps.toList all) (F : Fr h₀ L s.heap m₀) (N : News h₀ L s.heap [(lf, listO [] k₀)]) (hat : m₀ (Str.ofString "at") = some (.int 0 t1))
    (fin : ∀ i ti u vs k tl h tk, Tail x i [] → TupsAre tl vs all → (∀ p ∈ tl, p.1 ≠ lf) → Fr h₀ L h (readM m₀ u i ti) → News h₀ L h ((lf, listO vs k) :: tl) →
      wpAny (model prog w) A (isTrue test env (eval test env)) (fun ok s₂ => ok = false ∧ Q .next s₂) E { s with heap := h, toks := tk })
    (turn : ∀ i ti u vs k tl ds c l r t ts h tk, Tail x i (c :: l) → TupsAre tl vs ds → (∀ p ∈ tl, p.1 ≠ lf) → ds ++ t ++ ts = all → Rd (c :: l) (t ++ ts) → Rd r ts → r.length < (c :: l).length →
      (c = 44 ∧ t = [] ∧ l = r ∨ c = 32 ∧ t = [] ∧ l = r ∨ (∃ b, c = 34 ∧ t = [(Str.ofString "\"", ⟨b.toArray⟩)] ∧ l = StrLaws.dbl 34 b ++ 34 :: r ∧ Sep r) ∨ (∃ b, c = 39 ∧ t = [(Str.ofString "'", ⟨b.toArray⟩)] ∧ l = StrLaws.dbl 39 b ++ 39 :: r ∧ Sep r) ∨
        (∃ b, t = [(Str.ofString "", ⟨(c :: b).toArray⟩)] ∧ l = b ++ r ∧ (∀ d ∈ c :: b, d ≠ 44 ∧ d ≠ 32) ∧ c ≠ 34 ∧ c ≠ 39 ∧ Sep r)) →
      Fr h₀ L h (readM m₀ u i ti) → News h₀ L h ((lf, listO vs k) :: tl) →
      wpAny (model prog w) A (isTrue test env (eval test env)) (fun ok s₂ => ok = true ∧ wpAny (model prog w) A (execs body env) (RPost h₀ L s m₀ lf x all r ts) E s₂) E { s with heap := h, toks := tk })
    (hE : PassesOwn (model prog w) A env E := by passes_own) :
    wpAny (model prog w) A (exec (.While test body [] pos) env) Q E s := by
  refine While_inv2 (fun n m nx => ∃ i ti u vs k tl ds l ts, nx = (lf, listO vs k) :: tl ∧ n = l.length ∧ m = readM m₀ u i ti ∧ Tail x i l ∧ Rd l ts ∧ TupsAre tl vs ds ∧ (∀ p ∈ tl, p.1 ≠ lf) ∧ ds ++ ts = all) F N
    ⟨0, t1, m₀, [], k₀, [], [], _, all, rfl, rfl, readM_eq hat fun _ _ _ _ => rfl, Tail.start x, h0, .nil, (fun _ h => nomatch h), rfl⟩ ?_ hE
  rintro n m₁ nx h tk F₁ N₁ ⟨i, ti, u, vs, k, tl, ds, l, ts, rfl, rfl, rfl, hT, hR, hA, hO, hall⟩
  have go : ∀ {c l r t ts}, Tail x i (c :: l) → ds ++ t ++ ts = all → Rd r ts → r.length < (c :: l).length →
      wpAny (model prog w) A (isTrue test env (eval test env)) (fun ok s₂ => ok = true ∧ wpAny (model prog w) A (execs body env) (RPost h₀ L s m₀ lf x all r ts) E s₂) E { s with heap := h, toks := tk } →
      wpAny (model prog w) A (isTrue test env (eval test env)) (fun b s₂ => if b = true then wpAny (model prog w) A (execs body env) (WhileStep2 h₀ L s (fun n m nx => ∃ i ti u vs k tl ds l ts, nx = (lf, listO vs k) :: tl ∧ n = l.length ∧ m = readM m₀ u i ti ∧ Tail x i l ∧ Rd l ts ∧ TupsAre tl vs ds ∧ (∀ p ∈ tl, p.1 ≠ lf) ∧ ds ++ ts = all) Q (c :: l).length) E s₂ else Q .next s₂) E { s with heap := h, toks := tk } := by
    intro c l r t ts hT _ hr hlt hw
    refine wpAny_mono hw (fun ok s₂ p => ?_) fun _ _ x => x
    obtain ⟨rfl, p⟩ := p
    simp only [if_true]
    refine wpAny_mono p (fun f s₃ q => ?_) fun _ _ x => x
    cases f with
    | next =>
      obtain ⟨h', tk', m', i', ti', vs', k', tl', ds', e, F', N', e1, e2, hT', hA', hO', hall'⟩ := q
      exact ⟨h', tk', m', _, r.length, e, F', N', hlt, i', ti', m', vs', k', tl', ds', r, ts, rfl, rfl, readM_eq e1 e2, hT', hr, hA', hO', hall'⟩
    | cont =>
      obtain ⟨h', tk', m', i', ti', vs', k', tl', ds', e, F', N', e1, e2, hT', hA', hO', hall'⟩ := q
      exact ⟨h', tk', m', _, r.length, e, F', N', hlt, i', ti', m', vs', k', tl', ds', r, ts, rfl, rfl, readM_eq e1 e2, hT', hr, hA', hO', hall'⟩
    | brk => exact q.elim
    | ret v => exact q.elim
  have hR0 := hR
  cases hR with
  | nil =>
    rw [List.append_nil] at hall
    subst hall
    refine wpAny_mono (fin i ti u vs k tl h tk hT hA hO F₁ N₁) (fun ok s₂ p => ?_) fun _ _ x => x
    obtain ⟨rfl, p⟩ := p
    simpa using p
  | comma hr => exact go (t := []) hT (by simpa using hall) hr (Nat.lt_succ_self _) (turn i ti u vs k tl ds _ _ _ [] _ h tk hT hA hO (by simpa using hall) hR0 hr (Nat.lt_succ_self _) (.inl ⟨rfl, rfl, rfl⟩) F₁ N₁)
  | blank hr => exact go (t := []) hT (by simpa using hall) hr (Nat.lt_succ_self _) (turn i ti u vs k tl ds _ _ _ [] _ h tk hT hA hO (by simpa using hall) hR0 hr (Nat.lt_succ_self _) (.inr (.inl ⟨rfl, rfl, rfl⟩)) F₁ N₁)
  | dq b hs hr =>
    have hlt : ∀ r : List Nat, r.length < (34 :: (StrLaws.dbl 34 b ++ 34 :: r)).length := fun r => by simp only [List.length_cons, List.length_append]; omega
    exact go (t := [_]) hT (by simpa using hall) hr (hlt _) (turn i ti u vs k tl ds _ _ _ [_] _ h tk hT hA hO (by simpa using hall) hR0 hr (hlt _) (.inr (.inr (.inl ⟨b, rfl, rfl, rfl, hs⟩))) F₁ N₁)
  | sq b hs hr =>
    have hlt : ∀ r : List Nat, r.length < (39 :: (StrLaws.dbl 39 b ++ 39 :: r)).length := fun r => by simp only [List.length_cons, List.length_append]; omega
    exact go (t := [_]) hT (by simpa using hall) hr (hlt _) (turn i ti u vs k tl ds _ _ _ [_] _ h tk hT hA hO (by simpa using hall) hR0 hr (hlt _) (.inr (.inr (.inr (.inl ⟨b, rfl, rfl, rfl, hs⟩)))) F₁ N₁)
  | bare c b hb h34 h39 hs hr =>
    have hlt : ∀ r : List Nat, r.length < (c :: (b ++ r)).length := fun r => by simp only [List.length_cons, List.length_append]; omega
    exact go (t := [_]) hT (by simpa using hall) hr (hlt _) (turn i ti u vs k tl ds _ _ _ [_] _ h tk hT hA hO (by simpa using hall) hR0 hr (hlt _) (.inr (.inr (.inr (.inr ⟨b, rfl, rfl, hb, h34, h39, hs⟩)))) F₁ N₁)
theorem TupsAre.length {tl : List (Addr × Obj)} {vs : List Value} {ds : List (Str × Str)} (h : TupsAre tl vs ds) : vs.length = ds.length := by
  induction h with
  | nil => rfl
  | cons _ _ ih => simp only [List.length_cons, ih]
theorem Rd.length {l : List Nat} {ts : List (Str × Str)} (h : Rd l ts) : ts.length ≤ l.length := by
  induction h with
  | nil => exact Nat.le_refl _
  | comma _ ih => simp only [List.length_cons]; omega
  | blank _ ih => simp only [List.length_cons]; omega
  | dq b _ _ ih => simp only [List.length_cons, List.length_append]; omega
  | sq b _ _ ih => simp only [List.length_cons, List.length_append]; omega
  | bare c b _ _ _ _ _ ih => simp only [List.length_cons, List.length_append]; omega
theorem read_room {x : Str} {all ds t ts : List (Str × Str)} {tl : List (Addr × Obj)} {vs : List Value} (hR : Rd x.cps.toList all) (hx : x.length ≤ 10000000) (hA : TupsAre tl vs ds) (hall : ds ++ t ++ ts = all) : vs.toArray.size ≤ sizeLine := by
  have h1 : all.length ≤ x.cps.size := by have := hR.length; rwa [Array.length_toList] at this
  rw [← hall, List.length_append, List.length_append, ← hA.length] at h1
  have h2 : x.length = x.cps.size := rfl
  rw [sizeLine_eq]
  show vs.toArray.size ≤ _
  simp only [List.size_toArray]
  omega
theorem REnd.more {h' : Heap} {m₀ m' : Str → Option Value} {news' : List (Addr × Obj)} {lf D : Addr} {x q b : Str} {all ts ds : List (Str × Str)} {r : List Nat} {tk k : Nat} {ti t1 t2 : Tok} {i : Int} {vs : List Value} {tl : List (Addr × Obj)} (hT : Tail x i r) (hA : TupsAre tl vs ds) (hO : ∀ p ∈ tl, p.1 ≠ lf) (hall : ds ++ [(q, b)] ++ ts = all)
    (F : Fr h₀ L h' m') (N : News h₀ L h' news') (hD : D ≠ lf) (hm : (D, tupO [.str q t1, .str b t2]) ∈ news') (hlf : (lf, ({ cls := .type "list", data := .seq (vs.toArray.push (.ref D)) k } : Obj)) ∈ news') (htl : ∀ p ∈ tl, p ∈ news') (hat : m' (Str.ofString "at") = some (.int i ti))
    (hsame : ∀ y, y ≠ Str.ofString "at" → y ≠ Str.ofString "sign" → y ≠ Str.ofString "told" → m' y = m₀ y) : REnd h₀ L s m₀ lf x all r ts { s with heap := h', toks := tk } := by
  refine ⟨h', tk, m', i, ti, vs ++ [.ref D], k, (D, tupO [.str q t1, .str b t2]) :: tl, ds ++ [(q, b)], rfl, F, ?_, hat, hsame, hT, ?_, ?_, hall⟩
  · intro p hp
    rcases List.mem_cons.mp hp with rfl | hp
    · have e : listO (vs ++ [.ref D]) k = ({ cls := .type "list", data := .seq (vs.toArray.push (.ref D)) k } : Obj) := by rw [listO, List.push_toArray]
      rw [e]; exact N _ hlf
    · rcases List.mem_cons.mp hp with rfl | hp
      · exact N _ hm
      · exact N _ (htl p hp)
  · exact (hA.more fun p hp => .tail _ hp).snoc (.head _)
  · intro p hp
    rcases List.mem_cons.mp hp with rfl | hp
    · exact hD
    · exact hO p hp
theorem REnd.same {h' : Heap} {m₀ m' : Str → Option Value} {news' : List (Addr × Obj)} {lf : Addr} {x : Str} {all ts ds : List (Str × Str)} {r : List Nat} {tk k : Nat} {ti : Tok} {i : Int} {vs : List Value} {tl : List (Addr × Obj)} (hT : Tail x i r) (hA : TupsAre tl vs ds) (hO : ∀ p ∈ tl, p.1 ≠ lf) (hall : ds ++ [] ++ ts = all)
    (F : Fr h₀ L h' m') (N : News h₀ L h' news') (hlf : (lf, listO vs k) ∈ news') (htl : ∀ p ∈ tl, p ∈ news') (hat : m' (Str.ofString "at") = some (.int i ti))
    (hsame : ∀ y, y ≠ Str.ofString "at" → y ≠ Str.ofString "sign" → y ≠ Str.ofString "told" → m' y = m₀ y) : REnd h₀ L s m₀ lf x all r ts { s with heap := h', toks := tk } := by
  refine ⟨h', tk, m', i, ti, vs, k, tl, ds, rfl, F, ?_, hat, hsame, hT, hA, hO, by rw [← hall, List.append_nil]⟩
  intro p hp
  rcases List.mem_cons.mp hp with rfl | hp
  · exact N _ hlf
  · exact N _ (htl p hp)
end
end Mine
end
section
open PySem PySem.W PyProof.Rows
set_option maxRecDepth 100000
namespace Mine
-- the entry of a def's call, the objects at hand kept in sight
local macro_rules | `(tactic| walk_at "enter") => `(tactic| (refine wpAny_call ?_; k_dflt ((refine' code_defG ?k1 ?k2 ?k3 ?k4 ?k5 ?kA ?kF ?kK ?k6 ?k7 ?k8 ?k9 ?kB ?_ ?c2 ?c3 ?c4 ?c5); (case kA => exact rfl); (case kF => exact rfl); (case kK => assumption); (case k1 => k_asm); (case k2 => k_asm); (case k3 => k_asm); (case k4 => k_asm); (case k5 => k_asm); (case k6 => k_is); (case k7 => k_is); (case k8 => ktr_room); (case k9 => exact BindsTo.of_eq rfl); (case c5 => decide); (case kB => exact locs rfl); (case c2 => exact rfl); (case c3 => exact rfl); (case c4 => exact rfl); k_whole; intro g' L' h' FG' F' N' B' X' T' kG'; (try dsimp only); (try k_lift B'); (try k_fold))))
theorem mem1 {α : Type} {x a : α} {l : List α} (h : x ∈ l) : x ∈ a :: l := .tail _ h
theorem mem2 {α : Type} {x a b : α} {l : List α} (h : x ∈ l) : x ∈ a :: b :: l := .tail _ (.tail _ h)
local macro_rules | `(tactic| walk_at "tend") => `(tactic| (
  (try dsimp only);
  with_unfolding_all (refine TEnd.intro (by assumption) (by assumption) (fun p hp => by first | exact hp | exact mem1 hp | exact mem2 hp) rfl rfl (fun y h1 h2 => by simp only [toldM, if_neg h1, if_neg h2]))))
local macro_rules | `(tactic| walk_at "binaryOp Add str str") => `(tactic| (refine add_one (by assumption) ?_; intro _ _))
local macro_rules | `(tactic| k_all) => `(tactic| k_dflt assumption)
local macro_rules | `(tactic| walk_at "call builtin:list.append") => `(tactic| (k_dflt (refine append_K (by assumption) (by assumption) (by k_upd) ?_ (by assumption)); intro h' F' N'))
theorem mem3 {α : Type} {x a b c : α} {l : List α} (h : x ∈ l) : x ∈ a :: b :: c :: l := .tail _ (.tail _ (.tail _ h))
theorem at0 {α : Type} {x : α} {l : List α} : x ∈ x :: l := .head _
theorem at1 {α : Type} {x a : α} {l : List α} : x ∈ a :: x :: l := .tail _ (.head _)
theorem at2 {α : Type} {x a b : α} {l : List α} : x ∈ a :: b :: x :: l := .tail _ (.tail _ (.head _))
theorem at3 {α : Type} {x a b c : α} {l : List α} : x ∈ a :: b :: c :: x :: l := .tail _ (.tail _ (.tail _ (.head _)))
theorem at4 {α : Type} {x a b c d : α} {l : List α} : x ∈ a :: b :: c :: d :: x :: l := .tail _ (.tail _ (.tail _ (.tail _ (.head _))))
theorem mem5 {α : Type} {x a b c d e : α} {l : List α} (h : x ∈ l) : x ∈ a :: b :: c :: d :: e :: l := .tail _ (.tail _ (mem3 h))
theorem mem4 {α : Type} {x a b c d : α} {l : List α} (h : x ∈ l) : x ∈ a :: b :: c :: d :: l := .tail _ (mem3 h)
theorem Tail.cast {x : Str} {i : Int} {l r : List Nat} (h : Tail x i l) (e : r = l) : Tail x i r := e ▸ h
local macro_rules | `(tactic| walk_at "rend") => `(tactic| (
  (try dsimp only);
  first
  | with_unfolding_all (refine REnd.more (Tail.next (by assumption)) (by assumption) (by assumption) (by assumption) (by assumption) (by assumption) (by k_ne) at0 (by first | exact at3 | exact at4) (fun p hp => by first | exact mem4 hp | exact mem5 hp) rfl (fun y h1 h2 h3 => by simp only [readM, toldM, if_neg h1, if_neg h2, if_neg h3]))
  | with_unfolding_all (refine REnd.more (Tail.cast (by assumption) (by assumption)) (by assumption) (by assumption) (by assumption) (by assumption) (by assumption) (by k_ne) at0 (by first | exact at4 | exact at3) (fun p hp => by first | exact mem5 hp | exact mem4 hp) rfl (fun y h1 h2 h3 => by simp only [readM, toldM, if_neg h1, if_neg h2, if_neg h3]))
  | with_unfolding_all (refine REnd.same (Tail.next (by assumption)) (by assumption) (by assumption) (by assumption) (by assumption) (by assumption) (by first | exact at1 | exact at2) (fun p hp => by first | exact mem2 hp | exact mem1 hp) rfl (fun y h1 h2 h3 => by simp only [readM, toldM, if_neg h1, if_neg h2, if_neg h3]))))
local macro_rules | `(tactic| walk_at "exec While BoolOp") => `(tactic| (
  (first
  | with_unfolding_all refine while_quoted (Tail.next (by assumption)) (by assumption) (by assumption) (by decide) (by k_dflt assumption) (by k_dflt assumption) (by with_unfolding_all rfl) (by with_unfolding_all rfl) (by with_unfolding_all rfl) (by with_unfolding_all rfl) (by with_unfolding_all rfl) (fun i' ti' a' tt' l' h' tk' hT' hl' hi' hi2' hs' F' N' => ?_) (fun i' ti' a' tt' c' l' h' tk' hT' hl' hi' hi2' F' N' => ?_) (fun i' ti' tt' h' tk' hT' hi' hi2' hs' F' N' => ?_)
  | with_unfolding_all refine while_bare (B := _ :: _) (by assumption) (by assumption) (by assumption) (by assumption) (by k_dflt assumption) (by k_dflt assumption) (by with_unfolding_all rfl) (by with_unfolding_all rfl) (by with_unfolding_all rfl) (fun i' ti' a' tt' c' l' h' tk' hT' hlt' hl' hi' F' N' => ?_) (fun i' ti' tt' h' tk' hr' hT' he' F' N' => ?_) (fun i' ti' tt' l' h' tk' hr' hT' hlt' hi' F' N' => ?_));
  (all_goals (try k_fold))))
local macro_rules | `(tactic| walk_at "exec While Compare") => `(tactic| (
  (rename Rd _ _ => hR');
  (with_unfolding_all refine' while_read hR' ?kF ?kN ?ka (fun i' ti' u' vs' k' tl' h' tk' hT' hA' hO' F' N' => ?kz) (fun i' ti' u' vs' k' tl' ds' c' l' r' t' ts' h' tk' hT' hA' hO' hall' hRd' hr' hlt' hcase' F' N' => ?kt));
  (case kF => k_dflt assumption); (case kN => k_dflt assumption); (case ka => with_unfolding_all rfl);
  (case' kz => ((have hend' := hT'.end); (try k_fold)));
  (case' kt =>
    (have hsz' := read_room hR' (by assumption) hA' hall';
     clear hRd' hr' hlt' hR';
     rcases hcase' with ⟨hc', ht', hl'⟩ | ⟨hc', ht', hl'⟩ | ⟨b', hc', ht', hl', hs'⟩ | ⟨b', hc', ht', hl', hs'⟩ | ⟨b', ht', hl', hb', h34', h39', hs'⟩;
     (all_goals (subst ht')); (all_goals (try subst hc')); (all_goals (subst hl')); (all_goals (have hlt' := hT'.lt)); (all_goals (try (have hn1 := not_sep (hb' _ (List.Mem.head _)); have hn2 := not_quo (by assumption) (by assumption)))); (all_goals (try k_fold))))))
local macro_rules | `(tactic| walk_at "subscriptTail Name Name str int") => `(tactic| (refine item_tail (by assumption) (by assumption) ?_))
set_option maxHeartbeats 8000000 in
theorem c_read (w : World) (mean : ExcName → Option Value) (mg mb : Str → Option Value) (x : Str) (t : Tok) (all : List (Str × Str)) (hR : Rd x.cps.toList all) (hx : x.length ≤ 10000000) :
    Says 4 w mean mg mb 122 [.str x t] [] (fun h v h' => ∃ a vs k tl, v = .ref a ∧ (∀ p ∈ (a, listO vs k) :: tl, h'.get? p.1 = some p.2 ∧ h.get? p.1 = none) ∧ TupsAre tl vs all) := by
  have kf : Fill := by unfold Fill; k_fill; exact ⟨rfl, rfl⟩
  unfold Says
  clear kf
  intro dp un gd cn cs a ccd cl outer A₀ base h₀ L m s Q E B F X N T hk hdd hu hret
  walk_at "enter"
  repeat' (first | (k_unfold; (try dsimp only)) | walk1 | (dsimp only; walk1))
  all_goals first
    | walk_at "tend"
    | walk_at "rend"
    | exact decide_eq_false (by omega)
    | exact hret _ _ _ (gsub_end (by assumption) (by assumption)) ⟨_, _, _, _, rfl, fun p hp => ⟨((show News _ _ _ (_ :: _) from by assumption) p hp).1, gsub_fresh (by assumption) ((show News _ _ _ (_ :: _) from by assumption) p hp).2.2⟩, by assumption⟩
end Mine
end
section
open PySem PySem.W PyProof.Rows PySem.Calls
set_option maxRecDepth 100000
namespace Mine
inductive ValsAre : List Value → List LV → Prop
  | nil : ValsAre [] []
  | cons {v : Value} {d : LV} {vs ds} : IsLV v d → ValsAre vs ds → ValsAre (v :: vs) (d :: ds)
theorem ValsAre.snoc {v : Value} {d : LV} (h : IsLV v d) : ∀ {vs ds}, ValsAre vs ds → ValsAre (vs ++ [v]) (ds ++ [d])
  | _, _, .nil => .cons h .nil
  | _, _, .cons z r => .cons z (r.snoc h)
theorem ValsAre.length {vs : List Value} {ds : List LV} (h : ValsAre vs ds) : vs.length = ds.length := by
  induction h with
  | nil => rfl
  | cons _ _ ih => simp only [List.length_cons, ih]
theorem strs_length {vs : List Value} {ds : List Str} (h : StrsAre vs ds) : vs.length = ds.length := by
  induction h with
  | nil => rfl
  | cons _ _ _ ih => simp only [List.length_cons, ih]
theorem strs_more {y : Str} {t : Tok} : ∀ {vs : List Value} {ys : List Str}, StrsAre vs ys → StrsAre (vs ++ [.str y t]) (ys ++ [y])
  | _, _, .nil => .cons y t .nil
  | _, _, .cons z u r => .cons z u (strs_more r)
theorem strs_at {vs : List Value} {ys : List Str} (h : StrsAre vs ys) : ∀ {i : Nat} {v : Value}, vs[i]? = some v → ∃ y t, ys[i]? = some y ∧ v = .str y t := by
  induction h with
  | nil => intro i v e; cases i <;> cases e
  | cons y t _ ih =>
    intro i v e
    cases i with
    | zero => cases e; exact ⟨y, t, rfl, rfl⟩
    | succ i => exact ih e
/-- the law's bag is made -/
theorem bag_use {w : World} {mean : ExcName → Option Value} {mg mb : Str → Option Value} {l : Addr} {vsc : List Value} {ns : List Int} {i : Int} {ti : Tok}
    {dp un : Nat} {gd : Option (List Code)} {cn : Str} {cs : Scope} {a : Addr} {ccd : Value} {cl : List (Str × Addr)} {outer : List Env} {A₀ : Around} {base h₀ : Heap} {L : Addr} {m : Str → Option Value} {s : Shared} {Q E : Value → Shared → Prop} {news : List (Addr × Obj)}
    (hi : 0 ≤ i ∧ i < 6) (hl : base.IsList l vsc.toArray) (hI : IntsAre vsc ns) (hlay : (PyData.list (ns.map PyData.int)).layable0 = true) (hlen : ns.length ≤ 63)
    (B : Below A₀ base outer h₀) (F : Fr h₀ L s.heap m) (X : (hd.heap_39 w.params).In h₀) (N : News h₀ L s.heap news) (T : Top hd.view_39 lawLoose mean mg mb h₀) (hk : cs.kind = .function) (hd : dp + 1 < recursionLimit) (hu : un + 40 * 1 < cLine)
    (ret : ∀ b n t k h' tk', Fr h₀ L h' m → News h₀ L h' ((b, listO [.int n t] k) :: news) → 0 ≤ n ∧ n < 10 ^ 50 → (∀ p ∈ news, p.1 ≠ b) → Q (.ref b) { s with heap := h', toks := tk' }) :
    wpAny (model lawProg w) (ktrTop dp un gd cn cs L a ccd cl outer) (call (.ref 84) [.ref l, .int i ti]) Q E s := by
  refine c_bag w mean mg mb l vsc ns i ti hi _ _ _ _ _ _ _ _ _ _ _ _ _ _ _ _ _ hl hI hlay hlen B F X T hk hd hu fun v h' tk' hk' hp => ?_
  obtain ⟨b, n, t, k, rfl, hb, hf, hn1, hn2⟩ := hp
  have F' := F.keeps hk'
  have N' : News h₀ L h' news := N.grown hk'
  have hbL : b ≠ L := fun e => by
    obtain ⟨oL, es, ep, hL, hr⟩ := F.ns
    rw [e, hL] at hf; cases hf
  have hb0 : h₀.get? b = none := by
    cases e : h₀.get? b with
    | none => rfl
    | some o => rw [F.keep b o e] at hf; cases hf
  refine ret b n t k h' tk' F' (fun p hp => ?_) ⟨hn1, hn2⟩ fun p hp e => by have := (N p hp).1; rw [e, hf] at this; cases this
  rcases List.mem_cons.mp hp with rfl | hp
  · exact ⟨hb, hbL, hb0⟩
  · exact N' p hp
/-- a value out of the bag, which is not asked again -/
theorem value_use {w : World} {mean : ExcName → Option Value} {mg mb : Str → Option Value} {a0 : Addr} {n : Int} {tn : Tok} {k : Nat}
    {dp un : Nat} {gd : Option (List Code)} {cn : Str} {cs : Scope} {a : Addr} {ccd : Value} {cl : List (Str × Addr)} {outer : List Env} {A₀ : Around} {base h₀ : Heap} {L : Addr} {m : Str → Option Value} {s : Shared} {Q E : Value → Shared → Prop} {news : List (Addr × Obj)}
    (hn : 0 ≤ n ∧ n < 10 ^ 50) (hne : ∀ p ∈ news, p.1 ≠ a0)
    (B : Below A₀ base outer h₀) (F : Fr h₀ L s.heap m) (X : (hd.heap_39 w.params).In h₀) (N : News h₀ L s.heap ((a0, listO [.int n tn] k) :: news)) (T : Top hd.view_39 lawLoose mean mg mb h₀) (hk : cs.kind = .function) (hd : dp + 4 < recursionLimit) (hu : un + 40 * 4 < cLine)
    (ret : ∀ v d h' tk', IsLV v d → LVOk d → Fr h₀ L h' m → News h₀ L h' news → Q v { s with heap := h', toks := tk' }) :
    wpAny (model lawProg w) (ktrTop dp un gd cn cs L a ccd cl outer) (call (.ref 115) [.ref a0]) Q E s := by
  have hm := N _ (.head _)
  refine says_use (c_value w mean mg mb a0 n tn k hn) B F X (fun q hq => by rw [List.mem_singleton.mp hq]; exact hm) T hk hd hu fun v h' tk' g p => ?_
  obtain ⟨d, hv, ok⟩ := p
  have keep : ∀ b x, s.heap.get? b = some x → b ≠ a0 → h'.get? b = some x := fun b x e ne => g b x e (fun hq => ne (List.mem_singleton.mp hq))
  obtain ⟨oL, es, ep, hL, hr⟩ := F.ns
  refine ret v d h' tk' hv ok ⟨⟨oL, es, ep, keep _ _ hL (Ne.symm hm.2.1), hr⟩, fun b x e => keep _ _ (F.keep b x e) (fun q => ?_), F.above⟩ fun p hp => ?_
  · have h0 := hm.2.2
    rw [← q, e] at h0
    cases h0
  · have hp' := N p (.tail _ hp)
    exact ⟨keep _ _ hp'.1 (hne p hp), hp'.2⟩
section
variable {prog : Program} {w : World} {A : Around} {E : Value → Shared → Prop} {s : Shared} {env : Env} {h₀ : Heap} {body : List Stmt} {Q : Flow → Shared → Prop}
abbrev fillM (m₀ u : Str → Option Value) (i : Int) (t : Tok) : Str → Option Value :=
  fun y => if y = Str.ofString "k" then some (.int i t) else if y = Str.ofString "bag" then u y else m₀ y
abbrev filledM (m₀ u : Str → Option Value) : Str → Option Value :=
  fun y => if y = Str.ofString "k" then u y else if y = Str.ofString "bag" then u y else m₀ y
/-- what the first loop has built -/
structure Built (n : Nat) (vsN : List Value) (nms : List Str) (vsV : List Value) (ds : List LV) : Prop where
  stN : StrsAre vsN nms
  names : ∀ nm ∈ nms, NameT nm
  vals : ValsAre vsV ds
  oks : ∀ d ∈ ds, LVOk d
  ln : nms.length = n
  lv : ds.length = n
def FEnd (h₀ : Heap) (L : Addr) (s : Shared) (a1 a2 : Addr) (own : List (Addr × Obj)) (m₀ : Str → Option Value) (n : Nat) (s₃ : Shared) : Prop :=
  ∃ h' tk m' news' vsN kn nms vsV kv ds, s₃ = { s with heap := h', toks := tk } ∧ Fr h₀ L h' m' ∧ News h₀ L h' news' ∧ (∀ p ∈ own, p ∈ news') ∧ (a1, listO vsN kn) ∈ news' ∧ (a2, listO vsV kv) ∈ news' ∧ Built n vsN nms vsV ds ∧
    ∀ z, z ≠ Str.ofString "k" → z ≠ Str.ofString "bag" → m' z = m₀ z
def FPost (h₀ : Heap) (L : Addr) (s : Shared) (a1 a2 : Addr) (own : List (Addr × Obj)) (m₀ : Str → Option Value) (n : Nat) (f : Flow) (s₃ : Shared) : Prop :=
  match f with
  | .next => FEnd h₀ L s a1 a2 own m₀ n s₃
  | .cont => FEnd h₀ L s a1 a2 own m₀ n s₃
  | _ => False
theorem FEnd.intro {h' : Heap} {L : Addr} {a1 a2 : Addr} {own news' : List (Addr × Obj)} {m₀ m' : Str → Option Value} {n tk kn kv : Nat} {vsN vsV : List Value} {nms : List Str} {ds : List LV} {x : Str} {tx : Tok} {v : Value} {d : LV} (hB : Built n vsN nms vsV ds) (hx : NameT x) (hv : IsLV v d) (ok : LVOk d)
    (F : Fr h₀ L h' m') (N : News h₀ L h' news') (ho : ∀ p ∈ own, p ∈ news') (h1 : (a1, ({ cls := .type "list", data := .seq (vsN.toArray.push (.str x tx)) kn } : Obj)) ∈ news') (h2 : (a2, ({ cls := .type "list", data := .seq (vsV.toArray.push v) kv } : Obj)) ∈ news')
    (hm : ∀ z, z ≠ Str.ofString "k" → z ≠ Str.ofString "bag" → m' z = m₀ z) : FEnd h₀ L s a1 a2 own m₀ (n + 1) { s with heap := h', toks := tk } := by
  refine ⟨h', tk, m', news', vsN ++ [.str x tx], kn, nms ++ [x], vsV ++ [v], kv, ds ++ [d], rfl, F, N, ho, ?_, ?_, ⟨strs_more hB.stN, ?_, hB.vals.snoc hv, ?_, ?_, ?_⟩, hm⟩
  · have e : listO (vsN ++ [.str x tx]) kn = ({ cls := .type "list", data := .seq (vsN.toArray.push (.str x tx)) kn } : Obj) := by rw [listO, List.push_toArray]
    rw [e]; exact h1
  · have e : listO (vsV ++ [v]) kv = ({ cls := .type "list", data := .seq (vsV.toArray.push v) kv } : Obj) := by rw [listO, List.push_toArray]
    rw [e]; exact h2
  · intro nm hn
    rcases List.mem_append.mp hn with hn | hn
    · exact hB.names nm hn
    · rw [List.mem_singleton.mp hn]; exact hx
  · intro e he
    rcases List.mem_append.mp he with he | he
    · exact hB.oks e he
    · rw [List.mem_singleton.mp he]; exact ok
  · rw [List.length_append, hB.ln]; rfl
  · rw [List.length_append, hB.lv]; rfl
/-- the loop that builds the names and the values -/
theorem law_fill {L r a1 a2 : Addr} {b : Int} {t₀ u₀ v₀ : Tok} {m₀ : Str → Option Value} (hb : 1 ≤ b ∧ b ≤ 6) (hh : A.handled = none) (hr : IsRange s.heap r 0 b 1 t₀ u₀ v₀) (F : Fr h₀ L s.heap m₀) (N : News h₀ L s.heap [(a2, listO [] 0), (a1, listO [] 0)]) (hLe : env.locals = L)
    (turn : ∀ (i : Nat) ti u vsN kn nms vsV kv ds h tk own, (0 : Int) ≤ (i : Int) ∧ (i : Int) < 6 → vsN.toArray.size ≤ sizeLine → vsV.toArray.size ≤ sizeLine → Built i vsN nms vsV ds → OwnOff own [a2, a1] → Fr h₀ L h (fillM m₀ u i ti) → News h₀ L h ((a2, listO vsV kv) :: (a1, listO vsN kn) :: own) →
      wpAny (model prog w) A (execs body env) (FPost h₀ L s a1 a2 own m₀ (i + 1)) E { s with heap := h, toks := tk })
    (done : ∀ n u vsN kn nms vsV kv ds h tk, 1 ≤ n ∧ n ≤ 6 → Built n vsN nms vsV ds → Fr h₀ L h (filledM m₀ u) → News h₀ L h [(a2, listO vsV kv), (a1, listO vsN kn)] → Q .next { s with heap := h, toks := tk }) :
    wpAny (model prog w) A (pyIter (.ref r)) (fun it s₂ => LoopAtV prog w A h₀ env (Str.ofString "k") body Q E it s₂) E s := by
  subst hLe
  have hsmall : Builtin.Range.small 0 b 1 = true := small_one (by omega) (by omega) (by omega) (by omega)
  have hn : Builtin.Range.rangeSize 0 b 1 = (b.toNat : Int) := by rw [rangeSize_one, if_pos (by omega)]; omega
  refine wpAny_pyIter_range hr hsmall ?_
  have W := (Walks.range (prog := prog) (w := w) hh s.heap.objs.size 0 1 b.toNat)
  refine loop_invN (n := b.toNat) (m₀ := m₀) (news := [(a2, listO [] 0), (a1, listO [] 0)]) (fun i m nx => ∃ vsN kn nms vsV kv ds, nx = [(a2, listO vsV kv), (a1, listO vsN kn)] ∧ Built i vsN nms vsV ds ∧ ∀ z, z ≠ Str.ofString "k" → z ≠ Str.ofString "bag" → m z = m₀ z) W ?_ ?_ ?_ ?_ (by show IsRangeIter _ _ _ _ _; rw [hn]; simpa using Heap.get?_push_size _ rfl) (F.push _) (fun p hp => ⟨Heap.get?_push_of_some _ (N p hp).1, (N p hp).2⟩)
    ⟨[], 0, [], [], 0, [], rfl, ⟨.nil, (fun _ h => nomatch h), .nil, (fun _ h => nomatch h), rfl, rfl⟩, fun _ _ _ => rfl⟩ ?_ ?_
  · intro hm
    exact absurd F.ns.lt ((List.mem_singleton.mp hm) ▸ Nat.lt_irrefl _)
  · intro c hc
    rw [List.mem_singleton.mp hc]
    exact next_is_new F
  · intro p hp hI
    exact absurd (Heap.lt_size (N p hp).1) ((List.mem_singleton.mp hI) ▸ Nat.lt_irrefl _)
  · intro p hp hI
    exact absurd (Heap.lt_size (N p hp).1) ((List.mem_singleton.mp hI) ▸ Nat.lt_irrefl _)
  · rintro i v m₁ news₁ h tk own hi ⟨ti, rfl⟩ - hoff ⟨vsN, kn, nms, vsV, kv, ds, rfl, hB, hm⟩ F₁ N₁
    have ei : (0 : Int) + (i : Int) * 1 = (i : Int) := by omega
    rw [ei] at F₁
    have hM : (fun y => if y = Str.ofString "k" then some (Value.int (i : Int) ti) else m₁ y) = fillM m₀ m₁ i ti := by
      funext y
      unfold fillM
      by_cases e1 : y = Str.ofString "k"
      · rw [if_pos e1, if_pos e1]
      · rw [if_neg e1, if_neg e1]
        by_cases e2 : y = Str.ofString "bag"
        · rw [if_pos e2]
        · rw [if_neg e2]; exact hm y e1 e2
    rw [hM] at F₁
    have hs1 : vsN.toArray.size ≤ sizeLine := by
      rw [sizeLine_eq]; show vsN.toArray.size ≤ _; simp only [List.size_toArray]; rw [strs_length hB.stN, hB.ln]; omega
    have hs2 : vsV.toArray.size ≤ sizeLine := by
      rw [sizeLine_eq]; show vsV.toArray.size ≤ _; simp only [List.size_toArray]; rw [hB.vals.length, hB.lv]; omega
    refine wpAny_mono (turn i ti m₁ vsN kn nms vsV kv ds h tk own ⟨by omega, by omega⟩ hs1 hs2 hB hoff F₁ N₁) (fun f s₂ p => ?_) fun _ _ e => e
    have fin : FEnd h₀ env.locals s a1 a2 own m₀ (i + 1) s₂ → InvEndN h₀ env.locals (fun m nx => ∃ vsN kn nms vsV kv ds, nx = [(a2, listO vsV kv), (a1, listO vsN kn)] ∧ Built (i + 1) vsN nms vsV ds ∧ ∀ z, z ≠ Str.ofString "k" → z ≠ Str.ofString "bag" → m z = m₀ z) own ([(a2, listO [] 0), (a1, listO [] 0)].map (·.1)) { s with heap := h, toks := tk } s₂ := by
      rintro ⟨h', tk', m', news', vsN', kn', nms', vsV', kv', ds', e, F', N', ho, h1, h2, hB', hm'⟩
      refine ⟨h', tk', m', news', [(a2, listO vsV' kv'), (a1, listO vsN' kn')], e, F', N', ?_, ho, rfl, _, _, _, _, _, _, rfl, hB', hm'⟩
      intro p hp
      rcases List.mem_cons.mp hp with rfl | hp
      · exact h2
      · rw [List.mem_singleton.mp hp]; exact h1
    cases f with
    | next => exact fin p
    | cont => exact fin p
    | brk => exact p.elim
    | ret v => exact p.elim
  · rintro m₁ news₁ h tk ⟨vsN, kn, nms, vsV, kv, ds, rfl, hB, hm⟩ F₁ N₁
    have hM : m₁ = filledM m₀ m₁ := by
      funext y
      unfold filledM
      by_cases e1 : y = Str.ofString "k"
      · rw [if_pos e1]
      · rw [if_neg e1]
        by_cases e2 : y = Str.ofString "bag"
        · rw [if_pos e2]
        · rw [if_neg e2]; exact hm y e1 e2
    rw [hM] at F₁
    exact done b.toNat m₁ vsN kn nms vsV kv ds h tk ⟨by omega, by omega⟩ hB F₁ N₁
end
end Mine
end
section
open PySem PySem.W PyProof.Rows PySem.Calls
set_option maxRecDepth 100000
namespace Mine
section
variable {prog : Program} {w : World} {A : Around} {E : Value → Shared → Prop} {s : Shared} {env : Env} {h₀ : Heap} {body : List Stmt} {Q : Flow → Shared → Prop}
abbrev eachM (m₀ u : Str → Option Value) (nm : Str) (t : Tok) : Str → Option Value :=
  fun y => if y = Str.ofString "name" then some (.str nm t) else if y = Str.ofString "is_plain" then u y else m₀ y
abbrev pastM (m₀ u : Str → Option Value) : Str → Option Value :=
  fun y => if y = Str.ofString "name" then u y else if y = Str.ofString "is_plain" then u y else m₀ y
def EEnd (h₀ : Heap) (L : Addr) (s : Shared) (m₀ : Str → Option Value) (news own : List (Addr × Obj)) (s₃ : Shared) : Prop :=
  ∃ h' tk m' news', s₃ = { s with heap := h', toks := tk } ∧ Fr h₀ L h' m' ∧ News h₀ L h' news' ∧ (∀ p ∈ own, p ∈ news') ∧ (∀ p ∈ news, p ∈ news') ∧ ∀ z, z ≠ Str.ofString "name" → z ≠ Str.ofString "is_plain" → m' z = m₀ z
def EPost (h₀ : Heap) (L : Addr) (s : Shared) (m₀ : Str → Option Value) (news own : List (Addr × Obj)) (f : Flow) (s₃ : Shared) : Prop :=
  match f with
  | .next => EEnd h₀ L s m₀ news own s₃
  | .cont => EEnd h₀ L s m₀ news own s₃
  | _ => False
theorem law_each {L a1 a2 : Addr} {o2 : Obj} {vsN : List Value} {kn : Nat} {nms : List Str} {m₀ : Str → Option Value} (hh : A.handled = none) (hv : StrsAre vsN nms) (F : Fr h₀ L s.heap m₀) (N : News h₀ L s.heap [(a2, o2), (a1, listO vsN kn)]) (hLe : env.locals = L)
    (turn : ∀ nm t u h tk own, nm ∈ nms → Fr h₀ L h (eachM m₀ u nm t) → News h₀ L h ((a2, o2) :: (a1, listO vsN kn) :: own) →
      wpAny (model prog w) A (execs body env) (EPost h₀ L s m₀ [(a2, o2), (a1, listO vsN kn)] own) E { s with heap := h, toks := tk })
    (done : ∀ u h tk, Fr h₀ L h (pastM m₀ u) → News h₀ L h [(a2, o2), (a1, listO vsN kn)] → Q .next { s with heap := h, toks := tk }) :
    wpAny (model prog w) A (pyIter (.ref a1)) (fun it s₂ => LoopAtV prog w A h₀ env (Str.ofString "name") body Q E it s₂) E s := by
  subst hLe
  have hm1 := N (a1, listO vsN kn) (.tail _ (.head _))
  have hls : s.heap.IsList a1 vsN.toArray := ⟨_, hm1.1, rfl, kn, rfl⟩
  have hne : a1 ≠ s.heap.objs.size := Nat.ne_of_lt (Heap.lt_size hm1.1)
  refine wpAny_pyIter_list hls ?_
  have W := Walks.list (prog := prog) (w := w) hh s.heap.objs.size a1 hne vsN.toArray
  refine ⟨s.heap.objs.size, _, _, vsN.toArray.size, _, _, m₀, [(a2, o2), (a1, listO vsN kn)], (fun _ m nx => nx = [(a2, o2), (a1, listO vsN kn)] ∧ ∀ z, z ≠ Str.ofString "name" → z ≠ Str.ofString "is_plain" → m z = m₀ z), rfl, W, ?_, ?_, ?_, ⟨⟨_, Heap.get?_push_size _ rfl, rfl, rfl⟩, hls.at fun o e => Heap.get?_push_of_some _ e⟩, F.push _, (fun p hp => ⟨Heap.get?_push_of_some _ (N p hp).1, (N p hp).2⟩), ⟨rfl, fun _ _ _ => rfl⟩, ?_, ?_⟩
  · intro hm
    rcases List.mem_cons.mp hm with e | hm
    · exact absurd F.ns.lt (e ▸ Nat.lt_irrefl _)
    · exact hm1.2.1 (List.mem_singleton.mp hm).symm
  · intro b hb
    rw [List.mem_singleton.mp hb]
    exact next_is_new F
  · intro p hp hI
    exact absurd (Heap.lt_size (N p hp).1) ((List.mem_singleton.mp hI) ▸ Nat.lt_irrefl _)
  · rintro i v m₁ news₁ s₁ own ⟨h, tk, rfl⟩ hin hP ⟨rfl, hm⟩ hoff hown hget hfp hst F₁ N₁
    have hP' : vsN[i]? = some v := by simpa using hP
    obtain ⟨nm, t, hn, rfl⟩ := strs_at hv hP'
    have hM : (fun y => if y = Str.ofString "name" then some (Value.str nm t) else m₁ y) = eachM m₀ m₁ nm t := by
      funext y
      unfold eachM
      by_cases e1 : y = Str.ofString "name"
      · rw [if_pos e1, if_pos e1]
      · rw [if_neg e1, if_neg e1]
        by_cases e2 : y = Str.ofString "is_plain"
        · rw [if_pos e2]
        · rw [if_neg e2]; exact hm y e1 e2
    rw [hM] at F₁
    have N₂ : News h₀ env.locals h ((a2, o2) :: (a1, listO vsN kn) :: own) := fun p hp => N₁ p (by
      rcases List.mem_cons.mp hp with rfl | hp
      · exact List.mem_append_right _ (.head _)
      · rcases List.mem_cons.mp hp with rfl | hp
        · exact List.mem_append_right _ (.tail _ (.head _))
        · exact List.mem_append_left _ hp)
    refine wpAny_mono (turn nm t m₁ h tk own (List.mem_of_getElem? hn) F₁ N₂) (fun f s₂ p => ?_) fun _ _ e => e
    have fin : EEnd h₀ env.locals s m₀ [(a2, o2), (a1, listO vsN kn)] own s₂ → LoopStepU h₀ env.locals [s.heap.objs.size] own (fun m nx => nx = [(a2, o2), (a1, listO vsN kn)] ∧ ∀ z, z ≠ Str.ofString "name" → z ≠ Str.ofString "is_plain" → m z = m₀ z) { s with heap := h, toks := tk } .next s₂ := by
      rintro ⟨h', tk', m', news', e, F', N', ho, hn', hm'⟩
      exact ⟨rfl, h', tk', m', _, e, F', fun p hp => N' p ((List.mem_append.mp hp).elim (ho p) (hn' p)), hoff, rfl, hm'⟩
    cases f with
    | next => exact .next (fin p)
    | cont => exact .cont (fin p)
    | brk => exact p.elim
    | ret v => exact p.elim
  · rintro h' tk m' news' F' N' _ ⟨rfl, hm⟩
    have hM : m' = pastM m₀ m' := by
      funext y
      unfold pastM
      by_cases e1 : y = Str.ofString "name"
      · rw [if_pos e1]
      · rw [if_neg e1]
        by_cases e2 : y = Str.ofString "is_plain"
        · rw [if_pos e2]
        · rw [if_neg e2]; exact hm y e1 e2
    rw [hM] at F'
    exact done m' h' tk F' N'
end
/-- the law's reader is called -/
theorem read_use {w : World} {mean : ExcName → Option Value} {mg mb : Str → Option Value} {x : Str} {t : Tok} {all : List (Str × Str)}
    {dp un : Nat} {gd : Option (List Code)} {cn : Str} {cs : Scope} {a : Addr} {ccd : Value} {cl : List (Str × Addr)} {outer : List Env} {A₀ : Around} {base h₀ : Heap} {L : Addr} {m : Str → Option Value} {s : Shared} {Q E : Value → Shared → Prop} {news : List (Addr × Obj)}
    (hR : Rd x.cps.toList all) (hx : x.length ≤ 10000000)
    (B : Below A₀ base outer h₀) (F : Fr h₀ L s.heap m) (X : (hd.heap_39 w.params).In h₀) (N : News h₀ L s.heap news) (T : Top hd.view_39 lawLoose mean mg mb h₀) (hk : cs.kind = .function) (hd : dp + 4 < recursionLimit) (hu : un + 40 * 4 < cLine)
    (ret : ∀ b vs k tl h' tk', TupsAre tl vs all → Fr h₀ L h' m → News h₀ L h' ((b, listO vs k) :: (news ++ tl)) → Q (.ref b) { s with heap := h', toks := tk' }) :
    wpAny (model lawProg w) (ktrTop dp un gd cn cs L a ccd cl outer) (call (.ref 122) [.str x t]) Q E s := by
  refine says_pure (c_read w mean mg mb x t all hR hx) B F X T hk hd hu fun v h' tk' hk' hp => ?_
  obtain ⟨b, vs, k, tl, rfl, hn, hT⟩ := hp
  have F' := F.keeps hk'
  have N' : News h₀ L h' news := N.grown hk'
  have fresh : ∀ p ∈ (b, listO vs k) :: tl, h'.get? p.1 = some p.2 ∧ p.1 ≠ L ∧ h₀.get? p.1 = none := by
    intro p hp
    have h1 := hn p hp
    refine ⟨h1.1, fun e => ?_, ?_⟩
    · obtain ⟨oL, es, ep, hL, hr⟩ := F.ns
      rw [e, hL] at h1; cases h1.2
    · cases e : h₀.get? p.1 with
      | none => rfl
      | some o => rw [F.keep _ o e] at h1; cases h1.2
  refine ret b vs k tl h' tk' hT F' fun p hp => ?_
  rcases List.mem_cons.mp hp with rfl | hp
  · exact fresh _ (.head _)
  · rcases List.mem_append.mp hp with hp | hp
    · exact N' p hp
    · exact fresh _ (.tail _ hp)
/-- lists of pairs of texts -/
def pairD (d : Str × Str) : PyData := .tuple [.str d.1, .str d.2]
theorem tups_reads_all {h : Heap} {tl : List (Addr × Obj)} (hN : ∀ p ∈ tl, h.get? p.1 = some p.2) {vs : List Value} {ds : List (Str × Str)} (hT : TupsAre tl vs ds) : ∃ as, ReadsAll h vs (ds.map pairD) as := by
  induction hT with
  | nil => exact ⟨_, .nil⟩
  | cons hm _ ih =>
    obtain ⟨as, ih⟩ := ih
    exact ⟨_, .cons (.tuple (hN _ hm) rfl rfl (.cons (.str _ _) (.cons (.str _ _) .nil))) ih⟩
theorem tups_reads {h : Heap} {tl : List (Addr × Obj)} {a : Addr} {k : Nat} {vs : List Value} {ds : List (Str × Str)} (ha : h.get? a = some (listO vs k)) (hN : ∀ p ∈ tl, h.get? p.1 = some p.2) (hT : TupsAre tl vs ds) : ∃ as, Reads h (.ref a) (.list (ds.map pairD)) as := by
  obtain ⟨as, hr⟩ := tups_reads_all hN hT
  exact ⟨_, .list ha rfl rfl hr⟩
theorem eqv_pairs : ∀ ds : List (Str × Str), PyData.eqvAll (ds.map pairD) (ds.map pairD) = true
  | [] => by simp [PyData.eqvAll]
  | d :: ds => by
    have ih := eqv_pairs ds
    simp only [List.map_cons, PyData.eqvAll, ih, pairD, PyData.eqv, beq_self_eq_true, Bool.and_self]
end Mine
end
section
open PySem PySem.W PyProof.Rows PySem.Calls
set_option maxRecDepth 100000
namespace Mine
theorem canLay_pairs : ∀ ds : List (Str × Str), (∀ d ∈ ds, PyData.strOk d.1 = true ∧ PyData.strOk d.2 = true) → PyData.canLayAll0 (ds.map pairD) = true
  | [], _ => rfl
  | d :: r, h => by
    have h1 := h d (.head _)
    have ih := canLay_pairs r fun y hy => h y (.tail _ hy)
    simp only [List.map_cons, pairD, PyData.canLayAll0, PyData.canLay0, h1.1, h1.2, Bool.and_self, Bool.true_and]
    exact ih
theorem depth_pairs : ∀ ds : List (Str × Str), PyData.depthAll (ds.map pairD) ≤ 1
  | [] => Nat.zero_le _
  | d :: r => by
    have ih := depth_pairs r
    simp only [List.map_cons, pairD, PyData.depthAll, PyData.depth]
    omega
theorem shaped_pairs (ds : List (Str × Str)) (h : ∀ d ∈ ds, PyData.strOk d.1 = true ∧ PyData.strOk d.2 = true) : SeqAt.shaped (.list (ds.map pairD)) = true := by
  have h1 := depth_pairs ds
  have h2 : (PyData.list (ds.map pairD)).depth ≤ 64 := by
    rw [PyData.depth]; omega
  have h3 : (PyData.list (ds.map pairD)).canLay0 = true := by rw [PyData.canLay0]; exact canLay_pairs ds h
  unfold SeqAt.shaped
  rw [h3, decide_eq_true h2]; rfl
section
variable {prog : Program} {w : World} {A : Around} {E : Value → Shared → Prop} {s : Shared} {h₀ : Heap} {L a b : Addr} {vs vs' : List Value} {k k' : Nat} {tl tl' news : List (Addr × Obj)} {ds : List (Str × Str)} {Q : Value → Shared → Prop}
theorem cmp_ne (N : News h₀ L s.heap news) (T1 : TupsAre tl vs ds) (T2 : TupsAre tl' vs' ds) (hok : ∀ d ∈ ds, PyData.strOk d.1 = true ∧ PyData.strOk d.2 = true) (ha : (a, listO vs k) ∈ news) (ha' : ∀ p ∈ tl, p ∈ news) (hb : (b, listO vs' k') ∈ news) (hb' : ∀ p ∈ tl', p ∈ news)
    (hu : A.units + 64 < cLine) (h : Q (.bool false) s) : wpAny (model prog w) A (compareOp .NotEq (.ref a) (.ref b)) Q E s := by
  obtain ⟨as, r1⟩ := tups_reads (N _ ha).1 (fun p hp => (N p (ha' p hp)).1) T1
  obtain ⟨bs, r2⟩ := tups_reads (N _ hb).1 (fun p hp => (N p (hb' p hp)).1) T2
  refine ne_dataH r1 r2 (shaped_pairs ds hok) (shaped_pairs ds hok) hu ?_
  have e : PyData.eqv (.list (ds.map pairD)) (.list (ds.map pairD)) = true := by rw [PyData.eqv]; exact eqv_pairs ds
  rw [e]; exact h
theorem cmp_eq (N : News h₀ L s.heap news) (T1 : TupsAre tl vs ds) (T2 : TupsAre tl' vs' ds) (hok : ∀ d ∈ ds, PyData.strOk d.1 = true ∧ PyData.strOk d.2 = true) (ha : (a, listO vs k) ∈ news) (ha' : ∀ p ∈ tl, p ∈ news) (hb : (b, listO vs' k') ∈ news) (hb' : ∀ p ∈ tl', p ∈ news)
    (hu : A.units + 64 < cLine) (h : Q (.bool true) s) : wpAny (model prog w) A (compareOp .Eq (.ref a) (.ref b)) Q E s := by
  obtain ⟨as, r1⟩ := tups_reads (N _ ha).1 (fun p hp => (N p (ha' p hp)).1) T1
  obtain ⟨bs, r2⟩ := tups_reads (N _ hb).1 (fun p hp => (N p (hb' p hp)).1) T2
  refine eq_dataH r1 r2 (shaped_pairs ds hok) (shaped_pairs ds hok) hu ?_
  have e : PyData.eqv (.list (ds.map pairD)) (.list (ds.map pairD)) = true := by rw [PyData.eqv]; exact eqv_pairs ds
  rw [e]; exact h
end
end Mine
end
section
open PySem PySem.W PyProof.Rows PySem.Calls
set_option maxRecDepth 100000
namespace Mine
-- the plain laws about names
theorem nm_of_codes {x : Str} (hl : x.cps.toList.length ≤ 1000) (h : ∀ c ∈ x.cps.toList, c ≠ 10 ∧ c < 1114112) : NmOk x := by
  refine ⟨by rw [Array.length_toList] at hl; exact hl, fun i => ?_, ?_⟩
  · by_cases hi : i < x.cps.size
    · have hm : x.cps.getD i 0 ∈ x.cps.toList := by
        rw [Array.getD_eq_getD_getElem?, Array.getElem?_eq_getElem hi]
        exact Array.getElem_mem_toList hi
      exact (h _ hm).1
    · rw [Array.getD_eq_getD_getElem?, Array.getElem?_eq_none (by omega)]
      decide
  · unfold PyData.strOk
    rw [← Array.all_toList, List.all_eq_true]
    intro c hc
    exact decide_eq_true (h c hc).2
theorem words_codes : ∀ x ∈ wordsL ++ capsL, x.cps.toList.length ≤ 1000 ∧ ∀ c ∈ x.cps.toList, c ≠ 10 ∧ c < 1114112 := by decide +kernel
theorem name_ok {nm : Str} (h : NameT nm) : NmOk nm := by
  rcases h with h | h | h
  · exact sign_nm h
  · have := words_codes nm (List.mem_append_left _ h)
    exact nm_of_codes this.1 this.2
  · have := words_codes nm (List.mem_append_right _ h)
    exact nm_of_codes this.1 this.2
/-- the pattern, as a list is read -/
def reL : List Nat → Bool
  | [] => false
  | c :: b => lowC c && b.all wordC
theorem run_all (t : Array Nat) : ∀ (l : List Nat) (p : Nat), t.toList.drop p = l → (runLen t l.length p = l.length ↔ l.all wordC = true)
  | [], _, _ => by simp [runLen]
  | c :: r, p, h => by
    have e : t.getD p 0 = c := by
      have h0 : (t.toList.drop p)[0]? = some c := by rw [h]; rfl
      rw [List.getElem?_drop, Array.getElem?_toList] at h0
      rw [Array.getD_eq_getD_getElem?]
      rw [show p + 0 = p from rfl] at h0
      rw [h0]; rfl
    have ih := run_all t r (p + 1) (by rw [← List.drop_drop, h]; rfl)
    rw [List.length_cons]
    unfold runLen
    rw [e, List.all_cons]
    cases hw : wordC c with
    | false => simp
    | true => simp [ih]
theorem re_list (t : Array Nat) : reOk t = reL t.toList := by
  unfold reOk
  cases h : t.toList with
  | nil =>
    have : t.size = 0 := by rw [← Array.length_toList, h]; rfl
    rw [decide_eq_false (by omega), Bool.false_and, Bool.false_and]
    rfl
  | cons c b =>
    have hs : t.size = b.length + 1 := by rw [← Array.length_toList, h]; rfl
    have e0 : t.getD 0 0 = c := by
      have h0 : t.toList[0]? = some c := by rw [h]; rfl
      rw [Array.getElem?_toList] at h0
      rw [Array.getD_eq_getD_getElem?, h0]; rfl
    rw [decide_eq_true (show 0 < t.size by omega), e0, hs, Nat.add_sub_cancel, Bool.true_and]
    have := run_all t b 1 (by rw [h]; rfl)
    unfold reL
    congr 1
    cases hb : b.all wordC with
    | true => exact decide_eq_true (this.mpr hb)
    | false => exact decide_eq_false fun hq => by rw [this.mp hq] at hb; cases hb
theorem low_codes : ∀ c ∈ signCodes, (c == 0x3A3) = false ∧ Unicode.lowerOf c = [lo1 c] := by decide +kernel
theorem lower_signs {x : Str} (h : ∀ c ∈ x.cps.toList, c ∈ signCodes) : Txt.lower x = ⟨x.cps.map lo1⟩ := by
  unfold Txt.lower
  rw [placed_single x _ lo1 fun i c hc => by
    have hc' : x.cps[i]? = some c := by simpa using hc
    have hl := low_codes c (h c (List.mem_of_getElem? hc))
    unfold Unicode.lowerAt
    rw [hc']
    simp only [hl.1, Bool.false_and, Bool.false_eq_true, if_false]
    exact hl.2]
def plainL : List Str := [Str.ofString "select", Str.ofString "table", Str.ofString "add", Str.ofString "token", Str.ofString "to", Str.ofString "schema", Str.ofString "nan", Str.ofString "in", Str.ofString "view"]
theorem far_res : ∀ r ∈ resL ++ plainL, r.cps.toList.any (fun c => !(signCodes.map lo1).contains c && !signCodes.contains c) = true := by decide +kernel
theorem not_res {x : Str} (h : ∀ c ∈ x.cps.toList, c ∈ signCodes) : (resL.any (· == Txt.lower x)) = false := by
  rw [List.any_eq_false]
  intro r hr hq
  have e := eq_of_beq hq
  have hf := far_res r (List.mem_append_left _ hr)
  rw [e, lower_signs h, List.any_eq_true] at hf
  obtain ⟨c, hc, hn⟩ := hf
  rw [Array.toList_map] at hc
  obtain ⟨d, hd, rfl⟩ := List.mem_map.mp hc
  have : lo1 d ∈ signCodes.map lo1 := List.mem_map.mpr ⟨d, h d hd, rfl⟩
  rw [List.contains_iff_mem.mpr this] at hn
  simp at hn
theorem not_plain {x : Str} (h : ∀ c ∈ x.cps.toList, c ∈ signCodes) : (plainL.any fun r => r == x) = false := by
  rw [List.any_eq_false]
  intro r hr hq
  have e := eq_of_beq hq
  have hf := far_res r (List.mem_append_right _ hr)
  rw [e, List.any_eq_true] at hf
  obtain ⟨c, hc, hn⟩ := hf
  rw [List.contains_iff_mem.mpr (h c hc)] at hn
  simp at hn
theorem codes_odd : ∀ c ∈ signCodes, oddC c = !wordC c ∧ notInT smallT ⟨#[c]⟩ = !lowC c := by decide +kernel
theorem item_zero {x : Str} {c : Nat} {b : List Nat} (h : x.cps.toList = c :: b) : Txt.item x 0 = ⟨#[c]⟩ := by
  have e : x = ⟨(c :: b).toArray⟩ := by
    cases x with
    | mk a => cases a with
      | mk l => exact congrArg (fun q => (⟨⟨q⟩⟩ : Str)) h
  rw [e]
  unfold Txt.item Txt.charAt
  have : seqIndex? 0 (⟨(c :: b).toArray⟩ : Str).length = some 0 := by
    unfold seqIndex?
    show (if _ then _ else _) = _
    simp [Str.length]
  rw [this]
  rfl
theorem odd_none : ∀ l : List Nat, (∀ c ∈ l, c ∈ signCodes) → (l.filter oddC).isEmpty = l.all wordC
  | [], _ => rfl
  | c :: r, h => by
    rw [List.filter_cons, (codes_odd c (h c (.head _))).1, List.all_cons]
    cases hw : wordC c with
    | false => rfl
    | true =>
      have := odd_none r fun d hd => h d (.tail _ hd)
      simpa using this
theorem lower_is_word (c : Nat) (h : lowC c = true) : wordC c = true := by unfold wordC; rw [h]; rfl
theorem sign_valid {x : Str} (h : SignT x) : validB x = reL x.cps.toList := by
  unfold validB
  rw [not_res h.2, re_list]; rfl
theorem sign_plain {x : Str} (h : SignT x) : plainB x = reL x.cps.toList := by
  have hp := not_plain h.2
  unfold plainL at hp
  unfold plainB
  rw [hp]
  cases e : x.cps.toList with
  | nil =>
    have : x = Str.ofString "" := by
      cases x with
      | mk a => cases a with
        | mk l =>
          have : l = [] := e
          subst this; rfl
    rw [this]
    simp [reL]
  | cons c b =>
    have hne : (x == Str.ofString "") = false := by
      rw [beq_eq_false_iff_ne]
      intro hq
      rw [hq] at e
      cases e
    have hc : c ∈ signCodes := h.2 c (by rw [e]; exact .head _)
    have hall := odd_none (c :: b) fun d hd => h.2 d (by rw [e]; exact hd)
    rw [hne, item_zero e, (codes_odd c hc).2, List.isEmpty_map, hall, List.all_cons]
    unfold reL
    cases hl : lowC c with
    | false => simp [hl]
    | true => simp [hl, lower_is_word c hl]
theorem words_same : ∀ x ∈ wordsL ++ capsL, validB x = plainB x := by decide +kernel
theorem name_same {x : Str} (h : NameT x) : validB x = plainB x := by
  rcases h with h | h | h
  · rw [sign_valid h, sign_plain h]
  · exact words_same x (List.mem_append_left _ h)
  · exact words_same x (List.mem_append_right _ h)
theorem str_list (x : Str) : (⟨x.cps.toList.toArray⟩ : Str) = x := rfl
theorem esc_list (nm : Str) : (escT nm).cps.toList = 34 :: (StrLaws.dbl 34 nm.cps.toList ++ [34]) := by
  have h := StrLaws.replace_double nm 34
  have e : Str.ofString "\"" = ⟨#[34]⟩ := by decide +kernel
  have e2 : Str.ofString "\"\"" = ⟨#[34, 34]⟩ := by decide +kernel
  unfold escT
  rw [e, e2]
  simp only [Str.cps_append, Array.toList_append, h]
  rfl
theorem dbl_more (c : Nat) : ∀ l : List Nat, l.length ≤ (StrLaws.dbl c l).length
  | [] => Nat.le_refl _
  | k :: r => by
    have ih := dbl_more c r
    unfold StrLaws.dbl
    split <;> simp only [List.length_cons] <;> omega
theorem esc_ne (nm : Str) : (escT nm == nm) = false := by
  rw [beq_eq_false_iff_ne]
  intro h
  have h2 := congrArg (fun y : Str => y.cps.toList.length) h
  have h3 := dbl_more 34 nm.cps.toList
  simp only [esc_list, List.length_cons, List.length_append, List.length_nil] at h2
  omega
theorem pl_cases {nm : Str} (h : NameT nm) : (validB nm = true ∧ plainB nm = true ∧ maybeT nm = nm ∧ ((nm == nm) != true) = false ∧ (nm != nm) = false) ∨ (validB nm = false ∧ plainB nm = false ∧ maybeT nm = escT nm ∧ ((escT nm == nm) != false) = false ∧ (escT nm != escT nm) = false) := by
  have hs := name_same h
  cases hv : validB nm with
  | true =>
    refine .inl ⟨rfl, hs.symm.trans hv, by unfold maybeT; rw [hv]; rfl, ?_, ?_⟩
    · rw [beq_self_eq_true]; rfl
    · rw [bne, beq_self_eq_true]; rfl
  | false =>
    refine .inr ⟨rfl, hs.symm.trans hv, by unfold maybeT; rw [hv]; rfl, ?_, ?_⟩
    · rw [esc_ne]; rfl
    · rw [bne, beq_self_eq_true]; rfl
theorem esc_len {nm : Str} (h : nm.length ≤ 1000) : (escT nm).length ≤ 2002 := by
  have h2 := dbl_length 34 nm.cps.toList
  have h3 := congrArg List.length (esc_list nm)
  have h5 : (escT nm).cps.toList.length = (escT nm).cps.size := Array.length_toList
  have h6 : nm.cps.toList.length = nm.cps.size := Array.length_toList
  simp only [List.length_cons, List.length_append, List.length_nil] at h3
  have h4 : nm.cps.size ≤ 1000 := h
  show (escT nm).cps.size ≤ 2002
  omega
theorem pl_esc_rd {nm : Str} (h : NameT nm) : Rd (escT nm).cps.toList [(Str.ofString "\"", nm)] := by
  rw [esc_list]
  exact Rd.dq nm.cps.toList (r := []) (.inl rfl) .nil
theorem pl_esc_len {nm : Str} (h : NameT nm) : (escT nm).length ≤ 10000000 := Nat.le_trans (esc_len (name_ok h).len) (by decide)
end Mine
end
section
open PySem PySem.W PyProof.Rows PySem.Calls
set_option maxRecDepth 100000
namespace Mine
theorem c_valid_as {w : World} {mean : ExcName → Option Value} {mg mb : Str → Option Value} {nm : Str} {t : Tok} {b : Bool} (hn : NmOk nm) (h : validB nm = b) : Says 1 w mean mg mb 63 [.str nm t] [] (fun _ v _ => v = .bool b) := h ▸ c_valid w mean mg mb nm t hn
theorem c_plain_as {w : World} {mean : ExcName → Option Value} {mg mb : Str → Option Value} {nm : Str} {t : Tok} {b : Bool} (hn : NmOk nm) (h : plainB nm = b) : Says 3 w mean mg mb 108 [.str nm t] [] (fun _ v _ => v = .bool b) := h ▸ c_plain w mean mg mb nm t hn
theorem c_maybe_as {w : World} {mean : ExcName → Option Value} {mg mb : Str → Option Value} {nm y : Str} {t : Tok} (hn : NmOk nm) (h : maybeT nm = y) : Says 2 w mean mg mb 70 [.str nm t] [] (fun _ v _ => ∃ t', v = .str y t') := h ▸ c_maybe w mean mg mb nm t hn
theorem c_protect_as {w : World} {mean : ExcName → Option Value} {mg mb : Str → Option Value} {nm y : Str} {t : Tok} (hn : NmOk nm) (h : maybeT nm = y) : Says 3 w mean mg mb 39 [.str nm t] [] (fun _ v _ => ∃ t', v = .str y t') := h ▸ c_protect w mean mg mb nm t hn
theorem c_escape_as {w : World} {mean : ExcName → Option Value} {mg mb : Str → Option Value} {nm : Str} {t : Tok} (hn : NmOk nm) : Says 1 w mean mg mb 77 [.str nm t] [] (fun _ v _ => ∃ t', v = .str (escT nm) t') := c_escape w mean mg mb nm t hn.len
section
variable {prog : Program} {w : World} {A : Around} {E : Value → Shared → Prop} {s : Shared} {h₀ : Heap} {L : Addr} {Q : Value → Shared → Prop}
theorem cmp_one {D1 D2 b : Addr} {vs : List Value} {k : Nat} {q nm : Str} {t1 t2 : Tok} {p3 p4 : Addr × Obj} {own tl : List (Addr × Obj)} (N : News h₀ L s.heap ((D2, W.listOf #[.ref D1] 0) :: (D1, ({ cls := .type "tuple", data := .seq #[.str q t1, .str nm t2] } : Obj)) :: (b, listO vs k) :: p3 :: p4 :: (own ++ tl)))
    (T : TupsAre tl vs [(q, nm)]) (hq : PyData.strOk q = true) (hn : NmOk nm) (hu : A.units + 64 < cLine) (h : Q (.bool false) s) : wpAny (model prog w) A (compareOp .NotEq (.ref b) (.ref D2)) Q E s := by
  refine cmp_ne (tl' := [(D1, tupO [.str q t1, .str nm t2])]) N T (.cons (.head _) .nil) ?_ (.tail _ (.tail _ (.head _))) (fun p hp => .tail _ (.tail _ (.tail _ (.tail _ (.tail _ (List.mem_append_right _ hp)))))) (.head _) (fun p hp => ?_) hu h
  · intro d hd
    rw [List.mem_singleton.mp hd]
    exact ⟨hq, hn.ok⟩
  · rw [List.mem_singleton.mp hp]
    exact .tail _ (.head _)
end
theorem EEnd.intro {s : Shared} {h₀ h' : Heap} {L : Addr} {m₀ m' : Str → Option Value} {p1 p2 p3 p4 p5 : Addr × Obj} {own tl : List (Addr × Obj)} {tk : Nat} (F : Fr h₀ L h' m') (N : News h₀ L h' (p1 :: p2 :: p3 :: p4 :: p5 :: (own ++ tl))) (hm : ∀ z, z ≠ Str.ofString "name" → z ≠ Str.ofString "is_plain" → m' z = m₀ z) :
    EEnd h₀ L s m₀ [p4, p5] own { s with heap := h', toks := tk } := by
  refine ⟨h', tk, m', _, rfl, F, N, fun p hp => .tail _ (.tail _ (.tail _ (.tail _ (.tail _ (List.mem_append_left _ hp))))), fun p hp => ?_, hm⟩
  rcases List.mem_cons.mp hp with rfl | hp
  · exact .tail _ (.tail _ (.tail _ (.head _)))
  · rw [List.mem_singleton.mp hp]
    exact .tail _ (.tail _ (.tail _ (.tail _ (.head _))))
theorem ok_q : PyData.strOk (Str.ofString "\"") = true := by decide +kernel
theorem ok_s : PyData.strOk (Str.ofString "'") = true := by decide +kernel
theorem ok_e : PyData.strOk (Str.ofString "") = true := by decide +kernel
end Mine
end
section
open PySem PySem.W PyProof.Rows PySem.Calls
set_option maxRecDepth 100000
namespace Mine
open LCg
def TupEnd (h₀ : Heap) (L : Addr) (m : Str → Option Value) (s : Shared) (d : Str × Str) (I : Addr) (oI : Obj) (C : Addr) (oC : Obj) (D : Addr) (oD : Obj) (news : List (Addr × Obj)) (y : Value) (s₂ : Shared) : Prop :=
  ∃ h' tk' a t1 t2, s₂ = { s with heap := h', toks := tk' } ∧ y = .ref a ∧ Fr h₀ L h' m ∧ News h₀ L h' ((a, tupO [.str d.1 t1, .str d.2 t2]) :: (I, oI) :: (C, oC) :: (D, oD) :: news) ∧ a ≠ I ∧ a ≠ C ∧ a ≠ D
theorem TupEnd.intro {h₀ h' : Heap} {L : Addr} {m : Str → Option Value} {s : Shared} {q b : Str} {I C D a : Addr} {oI oC oD : Obj} {news : List (Addr × Obj)} {tk' : Nat} {t1 t2 : Tok} (F : Fr h₀ L h' m) (N : News h₀ L h' ((a, tupO [.str q t1, .str b t2]) :: (I, oI) :: (C, oC) :: (D, oD) :: news)) (h : a ≠ I ∧ a ≠ C ∧ a ≠ D) :
    TupEnd h₀ L m s (q, b) I oI C oC D oD news (.ref a) { s with heap := h', toks := tk' } := ⟨h', tk', a, t1, t2, rfl, rfl, F, N, h⟩
def TxtEnd (h₀ : Heap) (L : Addr) (m : Str → Option Value) (s : Shared) (d : Str) (I : Addr) (oI : Obj) (C : Addr) (oC : Obj) (D : Addr) (oD : Obj) (news : List (Addr × Obj)) (y : Value) (s₂ : Shared) : Prop :=
  ∃ h' tk' t, s₂ = { s with heap := h', toks := tk' } ∧ y = .str d t ∧ Fr h₀ L h' m ∧ News h₀ L h' ((I, oI) :: (C, oC) :: (D, oD) :: news)
theorem TxtEnd.intro {h₀ h' : Heap} {L : Addr} {m : Str → Option Value} {s : Shared} {d : Str} {I C D : Addr} {oI oC oD : Obj} {news : List (Addr × Obj)} {tk' : Nat} {t : Tok} (F : Fr h₀ L h' m) (N : News h₀ L h' ((I, oI) :: (C, oC) :: (D, oD) :: news)) :
    TxtEnd h₀ L m s d I oI C oC D oD news (.str d t) { s with heap := h', toks := tk' } := ⟨h', tk', t, rfl, rfl, F, N⟩
section
variable {prog : Program} {w : World} {A : Around} {E : Value → Shared → Prop} {s : Shared} {h₀ : Heap} {L : Addr} {m : Str → Option Value} {env : Env} {elt : Expr} {x : Str} {scope : Scope} {cl : List (Str × Addr)} {Fin : List Value → List (Addr × Obj) → Prop} {ax : Addr} {vs : List Value} {k : Nat} {news : List (Addr × Obj)}
theorem tups_cons {tl : List (Addr × Obj)} {vs : List Value} {ds : List (Str × Str)} (h : TupsAre tl vs ds) (p : Addr × Obj) : TupsAre (p :: tl) vs ds := h.more fun _ hq => .tail _ hq
/-- a comprehension whose turns each make a pair of texts -/
theorem comp_tups {ds : List (Str × Str)} (hlen : vs.length = ds.length) (hm : (ax, listO vs k) ∈ news)
    (turn : ∀ (i : Nat) (v : Value) (d : Str × Str) (tl : List (Addr × Obj)) I oI C oC D m₂ ys h tk (E' : Value → Shared → Prop), vs[i]? = some v → ds[i]? = some d → NsObj oC m₂ → m₂ x = some v → Fr h₀ L h m → News h₀ L h ((I, oI) :: (C, oC) :: (D, lst ys) :: (tl ++ news)) → Off3 I C D (tl ++ news) → ((@Ne Nat I C) ∧ (@Ne Nat I D) ∧ (@Ne Nat C D)) →
      wpAny (model prog w) A (eval elt (compEnvC scope cl C env)) (TupEnd h₀ L m s d I oI C oC D (lst ys) (tl ++ news)) E' { s with heap := h, toks := tk })
    (fin : ∀ ys tl, TupsAre tl ys ds → Fin ys (tl ++ news)) :
    CompRest prog w A h₀ L m env elt x scope cl s (SrcAt h₀ ax vs.toArray) (fun i v => vs.toArray[i]? = some v) Fin vs.toArray.size 0 [] news := by
  have hsize : vs.toArray.size = ds.length := by rw [List.size_toArray, hlen]
  have key : ∀ (j i : Nat) (ys : List Value) (tl : List (Addr × Obj)), i + j = ds.length → TupsAre tl ys (ds.take i) →
      CompRest prog w A h₀ L m env elt x scope cl s (SrcAt h₀ ax vs.toArray) (fun i v => vs.toArray[i]? = some v) Fin j i ys (tl ++ news) := by
    intro j
    induction j with
    | zero =>
      intro i ys tl hi hT
      rw [List.take_of_length_le (by omega)] at hT
      exact CompRest.zero (fin ys tl hT)
    | succ j ih =>
      intro i ys tl hi hT
      refine CompRest.succ ?_
      intro v I oI C oC D m₂ h tk E' hv hC hx F N off ne
      have hv' : vs[i]? = some v := by simpa using hv
      obtain ⟨d, hd⟩ : ∃ d, ds[i]? = some d := ⟨_, List.getElem?_eq_getElem (by omega)⟩
      refine wpAny_mono (turn i v d tl I oI C oC D m₂ ys h tk E' hv' hd hC hx F N off ne) (fun y s₂ hq => ?_) fun _ _ e => e
      obtain ⟨h', tk', a, t1, t2, rfl, rfl, F', N', n1, n2, n3⟩ := hq
      refine ⟨h', tk', ((a, tupO [.str d.1 t1, .str d.2 t2]) :: tl) ++ news, rfl, F', fun p hp => N' p ?_, ⟨⟨n1, n2, n3⟩, off⟩, .inr ⟨_, List.mem_append_right _ hm, rfl, _, rfl⟩, ih (i + 1) _ _ (by omega) ?_⟩
      · rcases List.mem_cons.mp hp with rfl | hp
        · exact .tail _ (.head _)
        · rcases List.mem_cons.mp hp with rfl | hp
          · exact .tail _ (.tail _ (.head _))
          · rcases List.mem_cons.mp hp with rfl | hp
            · exact .tail _ (.tail _ (.tail _ (.head _)))
            · rcases List.mem_cons.mp hp with rfl | hp
              · exact .head _
              · exact .tail _ (.tail _ (.tail _ (.tail _ hp)))
      · rw [List.take_add_one, hd]
        exact (tups_cons hT _).snoc (.head _)
  have := key vs.toArray.size 0 [] [] (by omega) .nil
  exact this
/-- a comprehension whose turns each give a text -/
theorem comp_texts {ys₀ : List Str} (hlen : vs.length = ys₀.length) (hm : (ax, listO vs k) ∈ news)
    (turn : ∀ (i : Nat) (v : Value) (d : Str) I oI C oC D m₂ ys h tk (E' : Value → Shared → Prop), vs[i]? = some v → ys₀[i]? = some d → NsObj oC m₂ → m₂ x = some v → Fr h₀ L h m → News h₀ L h ((I, oI) :: (C, oC) :: (D, lst ys) :: news) → Off3 I C D news → ((@Ne Nat I C) ∧ (@Ne Nat I D) ∧ (@Ne Nat C D)) →
      wpAny (model prog w) A (eval elt (compEnvC scope cl C env)) (TxtEnd h₀ L m s d I oI C oC D (lst ys) news) E' { s with heap := h, toks := tk })
    (fin : ∀ ys, StrsAre ys ys₀ → Fin ys news) :
    CompRest prog w A h₀ L m env elt x scope cl s (SrcAt h₀ ax vs.toArray) (fun i v => vs.toArray[i]? = some v) Fin vs.toArray.size 0 [] news := by
  have hsize : vs.toArray.size = ys₀.length := by rw [List.size_toArray, hlen]
  have key : ∀ (j i : Nat) (ys : List Value), i + j = ys₀.length → StrsAre ys (ys₀.take i) →
      CompRest prog w A h₀ L m env elt x scope cl s (SrcAt h₀ ax vs.toArray) (fun i v => vs.toArray[i]? = some v) Fin j i ys news := by
    intro j
    induction j with
    | zero =>
      intro i ys hi hT
      rw [List.take_of_length_le (by omega)] at hT
      exact CompRest.zero (fin ys hT)
    | succ j ih =>
      intro i ys hi hT
      refine CompRest.succ ?_
      intro v I oI C oC D m₂ h tk E' hv hC hx F N off ne
      have hv' : vs[i]? = some v := by simpa using hv
      obtain ⟨d, hd⟩ : ∃ d, ys₀[i]? = some d := ⟨_, List.getElem?_eq_getElem (by omega)⟩
      refine wpAny_mono (turn i v d I oI C oC D m₂ ys h tk E' hv' hd hC hx F N off ne) (fun y s₂ hq => ?_) fun _ _ e => e
      obtain ⟨h', tk', t, rfl, rfl, F', N'⟩ := hq
      refine ⟨h', tk', news, rfl, F', N', off, .inr ⟨_, hm, rfl, _, rfl⟩, ih (i + 1) _ (by omega) ?_⟩
      rw [List.take_add_one, hd]
      exact strs_more hT
  exact key vs.toArray.size 0 [] (by omega) .nil
end
/-- the law's names protected, by the contract -/
theorem names_use {w : World} {mean : ExcName → Option Value} {mg mb : Str → Option Value} {a0 : Addr} {vs : List Value} {n : Nat} {nms : List Str}
    {dp un : Nat} {gd : Option (List Code)} {cn : Str} {cs : Scope} {a : Addr} {ccd : Value} {cl : List (Str × Addr)} {outer : List Env} {A₀ : Around} {base h₀ : Heap} {L : Addr} {m : Str → Option Value} {s : Shared} {Q E : Value → Shared → Prop} {news : List (Addr × Obj)}
    (hv : StrsAre vs nms) (hn : ∀ nm ∈ nms, NmOk nm) (hl : nms.length ≤ 1000) (hm : (a0, listO vs n) ∈ news)
    (B : Below A₀ base outer h₀) (F : Fr h₀ L s.heap m) (X : (hd.heap_39 w.params).In h₀) (N : News h₀ L s.heap news) (T : Top hd.view_39 lawLoose mean mg mb h₀) (hk : cs.kind = .function) (hd : dp + 5 < recursionLimit) (hu : un + 40 * 5 < cLine)
    (ret : ∀ b vs' k h' tk', StrsAre vs' (nms.map maybeT) → Fr h₀ L h' m → News h₀ L h' ((b, listO vs' k) :: news) → Q (.ref b) { s with heap := h', toks := tk' }) :
    wpAny (model lawProg w) (ktrTop dp un gd cn cs L a ccd cl outer) (call (.ref 44) [.ref a0]) Q E s := by
  refine says_use (c_names w mean mg mb a0 vs n nms hv hn hl) B F X (fun q hq => by rw [List.mem_singleton.mp hq]; exact N _ hm) T hk hd hu fun v h' tk' g p => ?_
  obtain ⟨h0, b, vs', k, rfl, hb, hfr, hS⟩ := p
  have hk' : ∀ c o, s.heap.get? c = some o → h'.get? c = some o := by
    intro c o e
    by_cases hc : c = a0
    · subst hc
      rw [(N _ hm).1] at e
      cases e; exact h0
    · exact g c o e (fun hq => hc (List.mem_singleton.mp hq))
  have N' : News h₀ L h' news := N.grown hk'
  refine ret b vs' k h' tk' hS (F.keeps hk') fun p hp => ?_
  rcases List.mem_cons.mp hp with rfl | hp
  · refine ⟨hb, ?_⟩
    cases e : s.heap.get? b with
    | some o =>
      have := hfr o e
      subst this
      exact (N _ hm).2
    | none =>
      refine ⟨fun e' => ?_, ?_⟩
      · obtain ⟨oL, es, ep, hL, hr⟩ := F.ns
        have e' : b = L := e'
        rw [e', hL] at e; cases e
      · show h₀.get? b = none
        cases e2 : h₀.get? b with
        | none => rfl
        | some o => rw [F.keep _ o e2] at e; cases e
  · exact N' p hp
/-- what the law shows of a value -/
theorem shown_use {w : World} {mean : ExcName → Option Value} {mg mb : Str → Option Value} {v : Value} {d : LV}
    {dp un : Nat} {gd : Option (List Code)} {cn : Str} {cs : Scope} {a : Addr} {ccd : Value} {cl : List (Str × Addr)} {outer : List Env} {A₀ : Around} {base h₀ : Heap} {L : Addr} {m : Str → Option Value} {s : Shared} {Q E : Value → Shared → Prop} {news : List (Addr × Obj)}
    (hv : IsLV v d) (ok : LVOk d)
    (B : Below A₀ base outer h₀) (F : Fr h₀ L s.heap m) (X : (hd.heap_39 w.params).In h₀) (N : News h₀ L s.heap news) (T : Top hd.view_39 lawLoose mean mg mb h₀) (hk : cs.kind = .function) (hd : dp + 1 < recursionLimit) (hu : un + 40 * 1 < cLine)
    (ret : ∀ b t1 t2 h' tk', Fr h₀ L h' m → News h₀ L h' ((b, tupO [.str (shownT d).1 t1, .str (shownT d).2 t2]) :: news) → (∀ p ∈ news, b ≠ p.1) → Q (.ref b) { s with heap := h', toks := tk' }) :
    wpAny (model lawProg w) (ktrTop dp un gd cn cs L a ccd cl outer) (call (.ref 129) [v]) Q E s := by
  refine says_pure (c_shown w mean mg mb hv ok) B F X T hk hd hu fun y h' tk' hk' hp => ?_
  obtain ⟨b, t1, t2, rfl, hb, hf⟩ := hp
  have N' : News h₀ L h' news := N.grown hk'
  refine ret b t1 t2 h' tk' (F.keeps hk') (fun p hp => ?_) fun p hp e => ?_
  · rcases List.mem_cons.mp hp with rfl | hp
    · refine ⟨hb, fun e' => ?_, ?_⟩
      · obtain ⟨oL, es, ep, hL, hr⟩ := F.ns
        have e' : b = L := e'
        rw [e', hL] at hf; cases hf
      · show h₀.get? b = none
        cases e2 : h₀.get? b with
        | none => rfl
        | some o => rw [F.keep _ o e2] at hf; cases hf
    · exact N' p hp
  · have := (N p hp).1
    rw [← e, hf] at this; cases this
theorem vals_at {vs : List Value} {ds : List LV} (h : ValsAre vs ds) : ∀ {i : Nat} {v : Value} {d : LV}, vs[i]? = some v → ds[i]? = some d → IsLV v d := by
  induction h with
  | nil => intro i v d e; cases i <;> cases e
  | cons hv _ ih =>
    intro i v d e1 e2
    cases i with
    | zero => cases e1; cases e2; exact hv
    | succ i => exact ih e1 e2
theorem strs_eq {vs : List Value} {ys : List Str} (h : StrsAre vs ys) : ∀ {i : Nat} {v : Value} {y : Str}, vs[i]? = some v → ys[i]? = some y → ∃ t, v = .str y t := by
  intro i v y e1 e2
  obtain ⟨z, t, hz, rfl⟩ := strs_at h e1
  rw [hz] at e2; cases e2
  exact ⟨t, rfl⟩
theorem map_at {α β : Type} {f : α → β} {l : List α} {i : Nat} {y : β} (h : (l.map f)[i]? = some y) : ∃ x, l[i]? = some x ∧ y = f x := by
  rw [List.getElem?_map] at h
  cases e : l[i]? with
  | none => rw [e] at h; cases h
  | some x => rw [e] at h; cases h; exact ⟨x, rfl, rfl⟩
/-- what the law's reader must tell of the names -/
def nameP (nm : Str) : Str × Str := (if plainB nm then Str.ofString "" else Str.ofString "\"", nm)
section
variable {prog : Program} {w : World} {A : Around} {E : Value → Shared → Prop} {s : Shared} {h₀ : Heap} {L : Addr} {Q : Value → Shared → Prop}
theorem cmp_names {D b : Addr} {ys vs : List Value} {k : Nat} {p2 p3 p4 : Addr × Obj} {tl tl1 : List (Addr × Obj)} {ds : List (Str × Str)} (N : News h₀ L s.heap ((D, LCg.lst ys) :: (tl ++ (b, listO vs k) :: p2 :: p3 :: p4 :: tl1)))
    (T1 : TupsAre tl1 vs ds) (T2 : TupsAre tl ys ds) (hok : ∀ d ∈ ds, PyData.strOk d.1 = true ∧ PyData.strOk d.2 = true) (hu : A.units + 64 < cLine) (h : Q (.bool false) s) : wpAny (model prog w) A (compareOp .NotEq (.ref b) (.ref D)) Q E s :=
  cmp_ne (vs' := ys) (k' := ys.length) N T1 T2 hok (.tail _ (List.mem_append_right _ (.head _))) (fun p hp => .tail _ (List.mem_append_right _ (.tail _ (.tail _ (.tail _ (.tail _ hp)))))) (.head _) (fun p hp => .tail _ (List.mem_append_left _ hp)) hu h
theorem cmp_values {D b : Addr} {ys vs : List Value} {k : Nat} {p2 p3 : Addr × Obj} {tl mid tl1 : List (Addr × Obj)} {ds : List (Str × Str)} (N : News h₀ L s.heap ((D, LCg.lst ys) :: (tl ++ (b, listO vs k) :: p2 :: p3 :: (mid ++ tl1))))
    (T1 : TupsAre tl1 vs ds) (T2 : TupsAre tl ys ds) (hok : ∀ d ∈ ds, PyData.strOk d.1 = true ∧ PyData.strOk d.2 = true) (hu : A.units + 64 < cLine) (h : Q (.bool true) s) : wpAny (model prog w) A (compareOp .Eq (.ref b) (.ref D)) Q E s :=
  cmp_eq (vs' := ys) (k' := ys.length) N T1 T2 hok (.tail _ (List.mem_append_right _ (.head _))) (fun p hp => .tail _ (List.mem_append_right _ (.tail _ (.tail _ (.tail _ (List.mem_append_right _ hp)))))) (.head _) (fun p hp => .tail _ (List.mem_append_left _ hp)) hu h
end
end Mine
end
section
open PySem PySem.W PyProof.Rows PySem.Calls
set_option maxRecDepth 100000
namespace Mine
-- the plain laws about the joined texts
/-- read at the head of a text, the signs of x tell d -/
def Item (x : Str) (d : Str × Str) : Prop := ∀ r ts, Sep r → Rd r ts → Rd (x.cps.toList ++ r) (d :: ts)
theorem comma_list : (Str.ofString ", ").cps.toList = [44, 32] := by decide +kernel
theorem rd_join {α : Type} {f : α → Str} {g : α → Str × Str} : ∀ xs : List α, (∀ x ∈ xs, Item (f x) (g x)) → Rd (Txt.join (Str.ofString ", ") (xs.map f)).cps.toList (xs.map g)
  | [], _ => .nil
  | [x], h => by
    have := h x (.head _) [] [] (.inl rfl) .nil
    rw [List.append_nil] at this
    exact this
  | x :: y :: r, h => by
    have ih := rd_join (y :: r) fun z hz => h z (.tail _ hz)
    have e : (Txt.join (Str.ofString ", ") ((x :: y :: r).map f)).cps.toList = (f x).cps.toList ++ 44 :: 32 :: (Txt.join (Str.ofString ", ") ((y :: r).map f)).cps.toList := by
      rw [txt_join, txt_join]
      show (f x ++ Str.ofString ", " ++ Str.join (Str.ofString ", ") ((y :: r).map f)).cps.toList = _
      rw [Str.cps_append, Str.cps_append, Array.toList_append, Array.toList_append, comma_list, List.append_assoc]
      rfl
    rw [e]
    exact h x (.head _) _ _ (.inr ⟨_, rfl⟩) (.comma (.blank ih))
/-- a text that stands bare -/
def bareB (x : Str) : Bool := match x.cps.toList with
  | [] => false
  | c :: b => ((c :: b).all fun d => d != 44 && d != 32) && c != 34 && c != 39
theorem item_bare {x : Str} (h : bareB x = true) : Item x (Str.ofString "", x) := by
  intro r ts hs hr
  unfold bareB at h
  have ex : (⟨x.cps.toList.toArray⟩ : Str) = x := rfl
  revert h
  rw [← ex]
  show (match x.cps.toList.toArray.toList with | [] => false | c :: b => ((c :: b).all fun d => d != 44 && d != 32) && c != 34 && c != 39) = true → Rd (x.cps.toList.toArray.toList ++ r) _
  generalize x.cps.toList = l
  intro h
  cases l with
  | nil => cases h
  | cons c b =>
    have h : (((c :: b).all fun d => d != 44 && d != 32) && c != 34 && c != 39) = true := h
    rw [Bool.and_eq_true, Bool.and_eq_true, List.all_eq_true] at h
    refine Rd.bare c b (fun d hd => ?_) ?_ ?_ hs hr
    · have := h.1.1 d hd
      rw [Bool.and_eq_true] at this
      exact ⟨bne_iff_ne.mp this.1, bne_iff_ne.mp this.2⟩
    · exact bne_iff_ne.mp h.1.2
    · exact bne_iff_ne.mp h.2
theorem item_esc (nm : Str) : Item (escT nm) (Str.ofString "\"", nm) := by
  intro r ts hs hr
  rw [esc_list]
  show Rd (34 :: ((StrLaws.dbl 34 nm.cps.toList ++ [34]) ++ r)) _
  rw [List.append_assoc]
  exact Rd.dq nm.cps.toList hs hr
theorem words_bare : ∀ x ∈ wordsL ++ capsL, plainB x = true → bareB x = true := by decide +kernel
theorem low_facts {c : Nat} (h : lowC c = true) : c ≠ 34 ∧ c ≠ 39 := by
  unfold lowC at h
  rw [Bool.and_eq_true, decide_eq_true_iff, decide_eq_true_iff] at h
  omega
theorem word_facts {c : Nat} (h : wordC c = true) : c ≠ 44 ∧ c ≠ 32 := by
  unfold wordC lowC at h
  constructor
  · rintro rfl; cases h
  · rintro rfl; cases h
theorem reL_bare {x : Str} (h : reL x.cps.toList = true) : bareB x = true := by
  unfold bareB
  revert h
  cases x.cps.toList with
  | nil => intro h; cases h
  | cons c b =>
    intro h
    unfold reL at h
    rw [Bool.and_eq_true] at h
    have hl := low_facts h.1
    have hall : ((c :: b).all fun d => d != 44 && d != 32) = true := by
      rw [List.all_eq_true]
      intro d hd
      have hw : wordC d = true := by
        rcases List.mem_cons.mp hd with rfl | hd
        · exact lower_is_word _ h.1
        · exact List.all_eq_true.mp h.2 d hd
      have := word_facts hw
      rw [Bool.and_eq_true]
      exact ⟨bne_iff_ne.mpr this.1, bne_iff_ne.mpr this.2⟩
    show (((c :: b).all fun d => d != 44 && d != 32) && c != 34 && c != 39) = true
    rw [hall, bne_iff_ne.mpr hl.1, bne_iff_ne.mpr hl.2]
    rfl
theorem name_bare {x : Str} (h : NameT x) (hp : plainB x = true) : bareB x = true := by
  rcases h with h | h | h
  · exact reL_bare (by rw [← sign_plain h]; exact hp)
  · exact words_bare x (List.mem_append_left _ h) hp
  · exact words_bare x (List.mem_append_right _ h) hp
theorem item_name {x : Str} (h : NameT x) : Item (maybeT x) (nameP x) := by
  unfold nameP
  rcases pl_cases h with ⟨_, hp, hm, _⟩ | ⟨_, hp, hm, _⟩
  · rw [hp, hm, if_pos rfl]
    exact item_bare (name_bare h hp)
  · rw [hp, hm, if_neg Bool.false_ne_true]
    exact item_esc x
theorem sq_list (x : Str) : (Str.ofString "'" ++ Txt.replace x (Str.ofString "'") (Str.ofString "''") ++ Str.ofString "'").cps.toList = 39 :: (StrLaws.dbl 39 x.cps.toList ++ [39]) := by
  have h := StrLaws.replace_double x 39
  have e : Str.ofString "'" = ⟨#[39]⟩ := by decide +kernel
  have e2 : Str.ofString "''" = ⟨#[39, 39]⟩ := by decide +kernel
  rw [e, e2]
  simp only [Str.cps_append, Array.toList_append, h]
  rfl
theorem item_sq (x : Str) : Item (Str.ofString "'" ++ Txt.replace x (Str.ofString "'") (Str.ofString "''") ++ Str.ofString "'") (Str.ofString "'", x) := by
  intro r ts hs hr
  rw [sq_list]
  show Rd (39 :: ((StrLaws.dbl 39 x.cps.toList ++ [39]) ++ r)) _
  rw [List.append_assoc]
  exact Rd.sq x.cps.toList hs hr
theorem int_bare_all : ∀ k : Fin 200, bareB (Str.ofString (toString ((k.val : Int) - 100))) = true ∧ PyData.strOk (Str.ofString (toString ((k.val : Int) - 100))) = true := by decide +kernel
theorem int_bare {i : Int} (hi : -100 ≤ i ∧ i < 100) : bareB (Str.ofString (toString i)) = true ∧ PyData.strOk (Str.ofString (toString i)) = true := by
  have h := int_bare_all ⟨(i + 100).toNat, by omega⟩
  rwa [show (((⟨(i + 100).toNat, by omega⟩ : Fin 200).val : Int) - 100) = i from by show ((i + 100).toNat : Int) - 100 = i; omega] at h
theorem const_bare : bareB (Str.ofString "NULL") = true ∧ bareB (Str.ofString "true") = true ∧ bareB (Str.ofString "false") = true := by decide +kernel
theorem const_ok : PyData.strOk (Str.ofString "NULL") = true ∧ PyData.strOk (Str.ofString "true") = true ∧ PyData.strOk (Str.ofString "false") = true := by decide +kernel
theorem const_len : (Str.ofString "NULL").length ≤ 2002 ∧ (Str.ofString "true").length ≤ 2002 ∧ (Str.ofString "false").length ≤ 2002 := by decide +kernel
theorem item_val {d : LV} (h : LVOk d) : Item (protT d) (shownT d) := by
  cases d with
  | none => exact item_bare const_bare.1
  | int i =>
    show Item (Txt.lower (Str.ofString (toString i))) (Str.ofString "", Str.ofString (toString i))
    rw [(int_text h).2]
    exact item_bare (int_bare h).1
  | bool b =>
    cases b
    · exact item_bare const_bare.2.2
    · exact item_bare const_bare.2.1
  | str x => exact item_sq x
theorem val_ok {d : LV} (h : LVOk d) : PyData.strOk (shownT d).1 = true ∧ PyData.strOk (shownT d).2 = true := by
  cases d with
  | none => exact ⟨ok_e, const_ok.1⟩
  | int i => exact ⟨ok_e, (int_bare h).2⟩
  | bool b =>
    cases b
    · exact ⟨ok_e, const_ok.2.2⟩
    · exact ⟨ok_e, const_ok.2.1⟩
  | str x => exact ⟨ok_s, NmOk.ok h⟩
theorem val_len {d : LV} (h : LVOk d) : (protT d).length ≤ 2002 := by
  cases d with
  | none => exact const_len.1
  | int i => show (Txt.lower (Str.ofString (toString i))).length ≤ _; rw [(int_text h).2]; have := (int_text h).1; omega
  | bool b =>
    cases b
    · exact const_len.2.2
    · exact const_len.2.1
  | str x =>
    have h1 := NmOk.len h
    have h2 := dbl_length 39 x.cps.toList
    have h3 := congrArg List.length (sq_list x)
    have h5 : (Str.ofString "'" ++ Txt.replace x (Str.ofString "'") (Str.ofString "''") ++ Str.ofString "'").cps.toList.length = (Str.ofString "'" ++ Txt.replace x (Str.ofString "'") (Str.ofString "''") ++ Str.ofString "'").cps.size := Array.length_toList
    have h6 : x.cps.toList.length = x.cps.size := Array.length_toList
    simp only [List.length_cons, List.length_append, List.length_nil] at h3
    have h4 : x.cps.size ≤ 1000 := h1
    show (Str.ofString "'" ++ Txt.replace x (Str.ofString "'") (Str.ofString "''") ++ Str.ofString "'").cps.size ≤ 2002
    omega
theorem name_len {x : Str} (h : NameT x) : (maybeT x).length ≤ 2002 := by
  have hn := (name_ok h).len
  unfold maybeT
  split
  · omega
  · exact esc_len hn
theorem name_okP {x : Str} (h : NameT x) : PyData.strOk (nameP x).1 = true ∧ PyData.strOk (nameP x).2 = true := by
  refine ⟨?_, (name_ok h).ok⟩
  unfold nameP
  show PyData.strOk (if plainB x then _ else _) = true
  cases plainB x
  · exact ok_q
  · exact ok_e
theorem sum_le (k : Nat) : ∀ xs : List Str, (∀ x ∈ xs, x.length ≤ k) → (xs.map (·.length)).sum ≤ xs.length * k
  | [], _ => Nat.zero_le _
  | x :: r, h => by
    have ih := sum_le k r fun y hy => h y (.tail _ hy)
    have h1 := h x (.head _)
    rw [List.map_cons, List.sum_cons, List.length_cons, Nat.succ_mul]
    omega
theorem join_len (k : Nat) : ∀ xs : List Str, (∀ x ∈ xs, x.length ≤ k) → (Txt.join (Str.ofString ", ") xs).length ≤ xs.length * (k + 2)
  | [], _ => Nat.zero_le _
  | [x], h => by
    have h1 := h x (.head _)
    have : (Txt.join (Str.ofString ", ") [x]).length = x.length := rfl
    rw [this, List.length_singleton]
    omega
  | x :: y :: r, h => by
    have ih := join_len k (y :: r) fun z hz => h z (.tail _ hz)
    have h1 := h x (.head _)
    have e : (Txt.join (Str.ofString ", ") (x :: y :: r)).length = x.length + 2 + (Txt.join (Str.ofString ", ") (y :: r)).length := by
      rw [txt_join, txt_join]
      show (x ++ Str.ofString ", " ++ Str.join (Str.ofString ", ") (y :: r)).cps.size = _
      rw [Str.cps_append, Str.cps_append, Array.size_append, Array.size_append]
      rfl
    rw [e, List.length_cons, Nat.succ_mul]
    omega
theorem room_all {xs : List Str} (h : ∀ x ∈ xs, x.length ≤ 2002) (hl : xs.length ≤ 6) : (Txt.join (Str.ofString ", ") xs).length ≤ 10000000 ∧ (xs.map (·.length)).sum + xs.length * 64 ≤ 16777216 := by
  have h1 := join_len 2002 xs h
  have h2 := sum_le 2002 xs h
  have h3 : xs.length * (2002 + 2) ≤ 6 * (2002 + 2) := Nat.mul_le_mul_right _ hl
  have h4 : xs.length * 2002 ≤ 6 * 2002 := Nat.mul_le_mul_right _ hl
  constructor <;> omega
section
variable {n : Nat} {vsN vsV : List Value} {nms : List Str} {ds : List LV}
theorem names_small (h : Built n vsN nms vsV ds) : ∀ x ∈ nms.map maybeT, x.length ≤ 2002 := by
  intro x hx
  obtain ⟨nm, hm, rfl⟩ := List.mem_map.mp hx
  exact name_len (h.names _ hm)
theorem vals_small (h : Built n vsN nms vsV ds) : ∀ x ∈ ds.map protT, x.length ≤ 2002 := by
  intro x hx
  obtain ⟨d, hd, rfl⟩ := List.mem_map.mp hx
  exact val_len (h.oks _ hd)
theorem pl_names_rd (h : Built n vsN nms vsV ds) : Rd (Txt.join (Str.ofString ", ") (nms.map maybeT)).cps.toList (nms.map nameP) := rd_join nms fun x hx => item_name (h.names x hx)
theorem pl_names_len (h : Built n vsN nms vsV ds) (hn : 1 ≤ n ∧ n ≤ 6) : (Txt.join (Str.ofString ", ") (nms.map maybeT)).length ≤ 10000000 := (room_all (names_small h) (by rw [List.length_map, h.ln]; exact hn.2)).1
theorem pl_vals_rd (h : Built n vsN nms vsV ds) : Rd (Txt.join (Str.ofString ", ") (ds.map protT)).cps.toList (ds.map shownT) := rd_join ds fun x hx => item_val (h.oks x hx)
theorem pl_vals_len (h : Built n vsN nms vsV ds) (hn : 1 ≤ n ∧ n ≤ 6) : (Txt.join (Str.ofString ", ") (ds.map protT)).length ≤ 10000000 := (room_all (vals_small h) (by rw [List.length_map, h.lv]; exact hn.2)).1
theorem pl_names_room (h : Built n vsN nms vsV ds) (hn : 1 ≤ n ∧ n ≤ 6) : ((nms.map maybeT).map (·.length)).sum + (nms.map maybeT).length * 64 ≤ 16777216 := (room_all (names_small h) (by rw [List.length_map, h.ln]; exact hn.2)).2
theorem pl_vals_room (h : Built n vsN nms vsV ds) (hn : 1 ≤ n ∧ n ≤ 6) : ((ds.map protT).map (·.length)).sum + (ds.map protT).length * 64 ≤ 16777216 := (room_all (vals_small h) (by rw [List.length_map, h.lv]; exact hn.2)).2
theorem pl_names_ok (h : Built n vsN nms vsV ds) : ∀ d ∈ nms.map nameP, PyData.strOk d.1 = true ∧ PyData.strOk d.2 = true := by
  intro d hd
  obtain ⟨nm, hm, rfl⟩ := List.mem_map.mp hd
  exact name_okP (h.names _ hm)
theorem pl_vals_ok (h : Built n vsN nms vsV ds) : ∀ d ∈ ds.map shownT, PyData.strOk d.1 = true ∧ PyData.strOk d.2 = true := by
  intro d hd
  obtain ⟨e, he, rfl⟩ := List.mem_map.mp hd
  exact val_ok (h.oks _ he)
end
end Mine
end
section
open PySem PySem.W PyProof.Rows
namespace Mine
def Stop (P : Prop) : Prop := P
theorem Stop.of {P : Prop} (h : Stop P) : P := h
theorem len63 {ns : List Int} (h : ¬ (63 : Int) < (ns.length : Int)) : ns.length ≤ 63 := by omega
theorem ne_head {a b c : Addr} {o o' : Obj} {r : List (Addr × Obj)} (h : ∀ p ∈ (a, o) :: (b, o') :: r, p.1 ≠ c) : a ≠ c ∧ c ≠ a ∧ b ≠ c ∧ c ≠ b ∧ ∀ p ∈ r, p.1 ≠ c :=
  have h1 : a ≠ c := h _ (.head _)
  have h2 : b ≠ c := h _ (.tail _ (.head _))
  ⟨h1, Ne.symm h1, h2, Ne.symm h2, fun p hp => h p (.tail _ (.tail _ hp))⟩
local macro_rules | `(tactic| k_all) => `(tactic| k_dflt assumption)
local macro_rules | `(tactic| k_ne) => `(tactic| k_dflt assumption)
local macro_rules | `(tactic| walk_at "call type:range") => `(tactic| ((with_reducible show wpAny _ _ (call _ [_]) _ _ _); (with_unfolding_all refine range1_rows (by assumption) (by assumption) ?_); intro _ _ _ _ _ _ _ _ _))
local macro_rules | `(tactic| walk_at "pyIter ref") => `(tactic| (
  (rename IsRange _ _ _ _ _ _ _ _ => hr');
  (with_unfolding_all refine law_fill (by omega) rfl hr' (by assumption) (by assumption) (by with_unfolding_all rfl) (fun i' ti' u' vsN' kn' nms' vsV' kv' ds' h' tk' own' hi' hs1' hs2' hB' ho' F' N' => ?_) (fun n' u' vsN' kn' nms' vsV' kv' ds' h' tk' hn' hB' F' N' => ?_));
  (all_goals (try k_fold))))
local macro_rules | `(tactic| walk_at "pyIter ref") => `(tactic| (
  (rename Built _ _ _ _ _ => hB');
  (with_unfolding_all refine law_each rfl hB'.stN (by assumption) (by assumption) (by with_unfolding_all rfl) (fun nm' t' u' h' tk' own' hmem' F' N' => ?_) (fun u' h' tk' F' N' => ?_));
  (all_goals (try (have hN' := hB'.names _ (by assumption); have hOk' := name_ok hN'; rcases pl_cases hN' with ⟨hv1', hv2', hv3', hv4', hv5'⟩ | ⟨hv1', hv2', hv3', hv4', hv5'⟩)));
  (all_goals (try k_fold))))
local macro_rules | `(tactic| walk_at "call builtin:list.append") => `(tactic| (k_dflt (refine append_K (by assumption) (by assumption) (by k_upd) ?_ (by assumption)); intro h' F' N'))
local macro_rules | `(tactic| walk_at "call ref") => `(tactic| (
  (with_reducible show wpAny _ _ (call (Value.ref 84) [Value.ref _, Value.int _ _]) _ _ _);
  (with_unfolding_all refine' bag_use ?ki ?kl ?kI ?ky ?kn ?k1 ?k2 ?k3 ?k4 ?k5 ?kK ?kd ?ku ?_); (case ki => k_dflt assumption); (case kI => k_dflt assumption); (case ky => k_dflt assumption); (case kn => k_dflt (exact len63 (by assumption))); (case k2 => k_asm); (case k4 => k_asm); (case k1 => k_asm); (case k3 => k_asm); (case k5 => k_asm); (case kl => k_dflt assumption); (case kK => k_dflt (exact rfl)); (case kd => ktr_room); (case ku => ktr_units);
  intro b' n' t' k' h' tk' F' N' hn' hne'; (obtain ⟨n1', n2', n3', n4', n5'⟩ := ne_head hne'); (try dsimp only); (try k_fold)))
local macro_rules | `(tactic| walk_at "call ref") => `(tactic| (
  (with_reducible show wpAny _ _ (call (Value.ref 103) [Value.ref _]) _ _ _);
  (with_unfolding_all refine' says_bag (c_name _ _ _ _ _ _ _ _ ?kb) ?kU ?k1 ?k2 ?k3 ?k4 ?k5 ?kK ?kd ?ku ?_); (case k4 => k_asm); (case kU => k_updF); (case k2 => k_asm); (case k1 => k_asm); (case k3 => k_asm); (case k5 => k_asm); (case kK => k_dflt (exact rfl)); (case kd => ktr_room); (case ku => ktr_units); (case kb => k_dflt assumption);
  intro v' h' tk' F' kN' hp'; obtain ⟨x', b', t', t2', k', hv', ho', hx', hb'⟩ := hp'; subst hv'; (have N' := kN' _ ho'); clear kN'; (try dsimp only); (try k_fold)))
local macro_rules | `(tactic| walk_at "call ref") => `(tactic| (
  (with_reducible show wpAny _ _ (call (Value.ref 115) [Value.ref _]) _ _ _);
  (with_unfolding_all refine' value_use ?kb ?kU ?k1 ?k2 ?k3 ?k4 ?k5 ?kK ?kd ?ku ?_); (case k4 => k_asm); (case kU => k_all); (case k2 => k_asm); (case k1 => k_asm); (case k3 => k_asm); (case k5 => k_asm); (case kK => k_dflt (exact rfl)); (case kd => ktr_room); (case ku => ktr_units); (case kb => k_dflt assumption);
  intro v' d' h' tk' hv' ok' F' N'; (try dsimp only); (try k_fold)))
local macro_rules | `(tactic| walk_at "call ref") => `(tactic| (
  (with_reducible show wpAny _ _ (call (Value.ref 63) [Value.str _ _]) _ _ _);
  (with_unfolding_all refine' says_pure (c_valid_as ?kn ?kh) ?k1 ?k2 ?k3 ?k5 ?kK ?kd ?ku ?_); (case kn => k_dflt assumption); (case kh => k_dflt assumption); (case k2 => k_asm); (case k1 => k_asm); (case k3 => k_asm); (case k5 => k_asm); (case kK => k_dflt (exact rfl)); (case kd => ktr_room); (case ku => ktr_units);
  intro v' h' tk' hk' hp'; (have F' := Fr.keeps (by assumption) hk'); (have N' := News.grown (by assumption) hk'); clear hk'; subst hp'; (try dsimp only); (try k_fold)))
local macro_rules | `(tactic| walk_at "call ref") => `(tactic| (
  (with_reducible show wpAny _ _ (call (Value.ref 108) [Value.str _ _]) _ _ _);
  (with_unfolding_all refine' says_pure (c_plain_as ?kn ?kh) ?k1 ?k2 ?k3 ?k5 ?kK ?kd ?ku ?_); (case kn => k_dflt assumption); (case kh => k_dflt assumption); (case k2 => k_asm); (case k1 => k_asm); (case k3 => k_asm); (case k5 => k_asm); (case kK => k_dflt (exact rfl)); (case kd => ktr_room); (case ku => ktr_units);
  intro v' h' tk' hk' hp'; (have F' := Fr.keeps (by assumption) hk'); (have N' := News.grown (by assumption) hk'); clear hk'; subst hp'; (try dsimp only); (try k_fold)))
local macro_rules | `(tactic| walk_at "call ref") => `(tactic| (
  (with_reducible show wpAny _ _ (call (Value.ref 70) [Value.str _ _]) _ _ _);
  (with_unfolding_all refine' says_pure (c_maybe_as ?kn ?kh) ?k1 ?k2 ?k3 ?k5 ?kK ?kd ?ku ?_); (case kn => k_dflt assumption); (case kh => k_dflt assumption); (case k2 => k_asm); (case k1 => k_asm); (case k3 => k_asm); (case k5 => k_asm); (case kK => k_dflt (exact rfl)); (case kd => ktr_room); (case ku => ktr_units);
  intro v' h' tk' hk' hp'; (have F' := Fr.keeps (by assumption) hk'); (have N' := News.grown (by assumption) hk'); clear hk'; obtain ⟨t', hp'⟩ := hp'; subst hp'; (try dsimp only); (try k_fold)))
local macro_rules | `(tactic| walk_at "call ref") => `(tactic| (
  (with_reducible show wpAny _ _ (call (Value.ref 39) [Value.str _ _]) _ _ _);
  (with_unfolding_all refine' says_pure (c_protect_as ?kn ?kh) ?k1 ?k2 ?k3 ?k5 ?kK ?kd ?ku ?_); (case kn => k_dflt assumption); (case kh => k_dflt assumption); (case k2 => k_asm); (case k1 => k_asm); (case k3 => k_asm); (case k5 => k_asm); (case kK => k_dflt (exact rfl)); (case kd => ktr_room); (case ku => ktr_units);
  intro v' h' tk' hk' hp'; (have F' := Fr.keeps (by assumption) hk'); (have N' := News.grown (by assumption) hk'); clear hk'; obtain ⟨t', hp'⟩ := hp'; subst hp'; (try dsimp only); (try k_fold)))
local macro_rules | `(tactic| walk_at "call ref") => `(tactic| (
  (with_reducible show wpAny _ _ (call (Value.ref 77) [Value.str _ _]) _ _ _);
  (with_unfolding_all refine' says_pure (c_escape_as ?kn) ?k1 ?k2 ?k3 ?k5 ?kK ?kd ?ku ?_); (case kn => k_dflt assumption); (case k2 => k_asm); (case k1 => k_asm); (case k3 => k_asm); (case k5 => k_asm); (case kK => k_dflt (exact rfl)); (case kd => ktr_room); (case ku => ktr_units);
  intro v' h' tk' hk' hp'; (have F' := Fr.keeps (by assumption) hk'); (have N' := News.grown (by assumption) hk'); clear hk'; obtain ⟨t', hp'⟩ := hp'; subst hp'; (try dsimp only); (try k_fold)))
local macro_rules | `(tactic| walk_at "call ref") => `(tactic| (
  (with_reducible show wpAny _ _ (call (Value.ref 122) [Value.str _ _]) _ _ _);
  (with_unfolding_all refine' read_use ?kr ?kx ?k1 ?k2 ?k3 ?k4 ?k5 ?kK ?kd ?ku ?_); (case k4 => k_asm); (case k2 => k_asm); (case k1 => k_asm); (case k3 => k_asm); (case k5 => k_asm); (case kr => walk_at "rd"); (case kx => walk_at "rdlen"); (case kK => k_dflt (exact rfl)); (case kd => ktr_room); (case ku => ktr_units);
  intro b' vs' k' tl' h' tk' hT' F' N'; (try dsimp only [List.cons_append] at N'); (try dsimp only); (try k_fold)))
local macro_rules | `(tactic| walk_at "rd") => `(tactic| (k_dflt (exact pl_esc_rd (by assumption))))
local macro_rules | `(tactic| walk_at "rdlen") => `(tactic| (k_dflt (exact pl_esc_len (by assumption))))
local macro_rules | `(tactic| walk_at "compareOp NotEq ref ref") => `(tactic| ((with_reducible refine' cmp_one ?kN ?kT ?kq ?kn ?ku ?_); (case kN => with_reducible assumption); (case kT => with_reducible assumption); (case kq => exact ok_q); (case kn => k_dflt assumption); (case ku => ktr_units)))
local macro_rules | `(tactic| walk_at "eend") => `(tactic| ((try dsimp only); with_unfolding_all (refine EEnd.intro (by assumption) (by assumption) (fun y h1 h2 => by simp only [eachM, if_neg h1, if_neg h2]))))
local macro_rules | `(tactic| walk_at "fend") => `(tactic| ((try dsimp only); with_unfolding_all (refine FEnd.intro (by assumption) (by assumption) (by assumption) (by assumption) (by assumption) (by assumption) (fun p hp => .tail _ (.tail _ hp)) (.tail _ (.head _)) (.head _) (fun y h1 h2 => by simp only [fillM, if_neg h1, if_neg h2]))))
local macro_rules | `(tactic| walk_at "call ref") => `(tactic| (
  (with_reducible show wpAny _ _ (call (Value.ref 63) [Value.none]) _ _ _);
  (with_unfolding_all refine' says_pure (c_valid_none _ _ _ _) ?k1 ?k2 ?k3 ?k5 ?kK ?kd ?ku ?_); (case k2 => k_asm); (case k1 => k_asm); (case k3 => k_asm); (case k5 => k_asm); (case kK => k_dflt (exact rfl)); (case kd => ktr_room); (case ku => ktr_units);
  intro v' h' tk' hk' hp'; (have F' := Fr.keeps (by assumption) hk'); (have N' := News.grown (by assumption) hk'); clear hk'; subst hp'; (try dsimp only); (try k_fold)))
theorem built_len {n : Nat} {vsN vsV : List Value} {nms : List Str} {ds : List LV} (h : Built n vsN nms vsV ds) (hn : 1 ≤ n ∧ n ≤ 6) : nms.length ≤ 1000 := by rw [h.ln]; omega
local macro_rules | `(tactic| walk_at "call ref") => `(tactic| (
  (with_reducible show wpAny _ _ (call (Value.ref 44) [Value.ref _]) _ _ _); (rename Built _ _ _ _ _ => hB');
  (with_unfolding_all refine' names_use hB'.stN (fun _ hnm => name_ok (hB'.names _ hnm)) ?kl ?km ?k1 ?k2 ?k3 ?k4 ?k5 ?kK ?kd ?ku ?_); (case k4 => k_asm); (case k2 => k_asm); (case k1 => k_asm); (case k3 => k_asm); (case k5 => k_asm); (case kl => k_dflt (exact built_len hB' (by assumption))); (case km => k_dflt (first | exact at1 | exact at0 | exact at2)); (case kK => k_dflt (exact rfl)); (case kd => ktr_room); (case ku => ktr_units);
  intro b' vs' k' h' tk' hS' F' N'; (try dsimp only); (try k_fold)))
local macro_rules | `(tactic| walk_at "call builtin:str.join") => `(tactic| (
  (rename StrsAre _ (List.map _ _) => hS'); (rename Built _ _ _ _ _ => hB');
  (refine join_listC ?kl hS' ?ks ?ko ?_); (case kl => exact News.isList (by assumption) (.head _)); (case ks => decide); (case ko => first | exact pl_names_room hB' (by assumption) | exact pl_vals_room hB' (by assumption)); intro t' k'))
local macro_rules | `(tactic| walk_at "rd") => `(tactic| (k_dflt (first | exact pl_names_rd (by assumption) | exact pl_vals_rd (by assumption))))
local macro_rules | `(tactic| walk_at "rdlen") => `(tactic| (k_dflt (first | exact pl_names_len (by assumption) (by assumption) | exact pl_vals_len (by assumption) (by assumption))))
local macro_rules | `(tactic| walk_at "eval ListComp") => `(tactic| (k_dflt (refine LCg.ListComp_U (F₀ := by k_asm) (by with_unfolding_all rfl) (by decide) (by rfl) (by decide) (by rfl) ?_)))
theorem names_room {n : Nat} {vsN vsV : List Value} {nms : List Str} {ds : List LV} (h : Built n vsN nms vsV ds) (hn : 1 ≤ n ∧ n ≤ 6) : vsN.toArray.size ≤ sizeLine := by
  rw [sizeLine_eq]; show vsN.toArray.size ≤ _; simp only [List.size_toArray]; rw [strs_length h.stN, h.ln]; omega
theorem names_map {n : Nat} {vsN vsV : List Value} {nms : List Str} {ds : List LV} (h : Built n vsN nms vsV ds) : vsN.length = (nms.map nameP).length := by rw [List.length_map, strs_length h.stN]
theorem names_item {n : Nat} {vsN vsV : List Value} {nms : List Str} {ds : List LV} (h : Built n vsN nms vsV ds) {i : Nat} {v : Value} {d : Str × Str} (h1 : vsN[i]? = some v) (h2 : (nms.map nameP)[i]? = some d) : ∃ nm t, v = .str nm t ∧ NameT nm ∧ (plainB nm = true ∧ d = (Str.ofString "", nm) ∨ plainB nm = false ∧ d = (Str.ofString "\"", nm)) := by
  obtain ⟨nm, hnm, rfl⟩ := map_at h2
  obtain ⟨t, rfl⟩ := strs_eq h.stN h1 hnm
  refine ⟨nm, t, rfl, h.names _ (List.mem_of_getElem? hnm), ?_⟩
  cases hp : plainB nm with
  | true => exact .inl ⟨rfl, by unfold nameP; rw [hp]; rfl⟩
  | false => exact .inr ⟨rfl, by unfold nameP; rw [hp]; rfl⟩
theorem mem_at2 {α : Type} {a b c x : α} {l r : List α} (h : x ∈ r) : x ∈ a :: b :: c :: (l ++ r) := .tail _ (.tail _ (.tail _ (List.mem_append_right _ h)))
local macro_rules | `(tactic| walk_at "CompSrc") => `(tactic| (
  (rename Built _ _ _ _ _ => hB');
  k_dflt (refine LCg.CompSrc.ledger (its := (_ : List Value).toArray) (by rfl) (by k_asm) (by k_asm) (by k_mem) (names_room hB' (by assumption)) ?_; intro g'; refine comp_tups (names_map hB') (by k_mem) (fun ii' vv' dd' tl' I' oI' C' oC' D' m' ys' h' tk' E' hv' hd' hC' hx' F' N' off' ne' => ?_) (fun ys' tl' hT' => ?_));
  (all_goals (try (obtain ⟨nm', t', hv1', hN', hcs'⟩ := names_item hB' hv' hd'; subst hv1'; have hOk' := name_ok hN'; rcases hcs' with ⟨hpl', hd1'⟩ | ⟨hpl', hd1'⟩ <;> subst hd1')));
  (all_goals (try k_fold))))
local macro_rules | `(tactic| walk_at "TupEnd") => `(tactic| (k_dflt (refine TupEnd.intro (by with_reducible assumption) (by assumption) ⟨?_, ?_, ?_⟩); (all_goals k_ne)))
local macro_rules | `(tactic| walk_at "compareOp NotEq ref ref") => `(tactic| ((with_reducible refine' cmp_names ?kN ?kT ?kT2 ?kq ?ku ?_); (case kN => with_reducible assumption); (case kT => with_reducible assumption); (case kT2 => with_reducible assumption); (case kq => exact pl_names_ok (by assumption)); (case ku => ktr_units)))
theorem vals_room {n : Nat} {vsN vsV : List Value} {nms : List Str} {ds : List LV} (h : Built n vsN nms vsV ds) (hn : 1 ≤ n ∧ n ≤ 6) : vsV.toArray.size ≤ sizeLine := by
  rw [sizeLine_eq]; show vsV.toArray.size ≤ _; simp only [List.size_toArray]; rw [h.vals.length, h.lv]; omega
theorem vals_map {β : Type} {f : LV → β} {n : Nat} {vsN vsV : List Value} {nms : List Str} {ds : List LV} (h : Built n vsN nms vsV ds) : vsV.length = (ds.map f).length := by rw [List.length_map, h.vals.length]
theorem vals_item {β : Type} {f : LV → β} {n : Nat} {vsN vsV : List Value} {nms : List Str} {ds : List LV} (h : Built n vsN nms vsV ds) {i : Nat} {v : Value} {d : β} (h1 : vsV[i]? = some v) (h2 : (ds.map f)[i]? = some d) : ∃ e, d = f e ∧ IsLV v e ∧ LVOk e := by
  obtain ⟨e, he, rfl⟩ := map_at h2
  exact ⟨e, rfl, vals_at h.vals h1 he, h.oks _ (List.mem_of_getElem? he)⟩
theorem mem_v1 {α : Type} {a b c x : α} {l r : List α} : x ∈ a :: (l ++ b :: c :: x :: r) := .tail _ (List.mem_append_right _ (.tail _ (.tail _ (.head _))))
local macro_rules | `(tactic| walk_at "CompSrc") => `(tactic| (
  (fail_if_success rename StrsAre _ (List.map protT _) => hz'); (rename Built _ _ _ _ _ => hB'); (rename TupsAre _ _ _ => hz'); (rename TupsAre _ _ _ => hz2');
  k_dflt (refine LCg.CompSrc.ledger (its := (_ : List Value).toArray) (by rfl) (by k_asm) (by k_asm) mem_v1 (vals_room hB' (by assumption)) ?_; intro g'; refine comp_texts (vals_map (f := protT) hB') mem_v1 (fun ii' vv' dd' I' oI' C' oC' D' m' ys' h' tk' E' hv' hd' hC' hx' F' N' off' ne' => ?_) (fun ys' hT' => ?_));
  (all_goals (try (obtain ⟨lv', hd1', hIs', hOk'⟩ := vals_item hB' hv' hd'; subst hd1')));
  (all_goals (try k_fold))))
local macro_rules | `(tactic| walk_at "call ref") => `(tactic| (
  (with_reducible show wpAny _ _ (call (Value.ref 51) [_]) _ _ _); (rename IsLV _ _ => hIs');
  (with_unfolding_all refine' says_pure (c_val _ _ _ _ hIs' ?kn) ?k1 ?k2 ?k3 ?k5 ?kK ?kd ?ku ?_); (case kn => k_dflt assumption); (case k2 => k_asm); (case k1 => k_asm); (case k3 => k_asm); (case k5 => k_asm); (case kK => k_dflt (exact rfl)); (case kd => ktr_room); (case ku => ktr_units);
  intro v' h' tk' hk' hp'; (have F' := Fr.keeps (by assumption) hk'); (have N' := News.grown (by assumption) hk'); clear hk'; (obtain ⟨t', hp'⟩ := hp'; subst hp'); (try dsimp only); (try k_fold)))
local macro_rules | `(tactic| walk_at "TxtEnd") => `(tactic| (k_dflt (refine TxtEnd.intro (by with_reducible assumption) (by assumption))))
theorem mem_v2 {α : Type} {a b c d e x : α} {l r q : List α} : x ∈ a :: b :: c :: (l ++ d :: e :: x :: r ++ q) := .tail _ (.tail _ (.tail _ (List.mem_append_left _ (List.mem_append_right _ (.tail _ (.tail _ (.head _)))))))
local macro_rules | `(tactic| walk_at "CompSrc") => `(tactic| (
  (rename StrsAre _ (List.map protT _) => hz'); (rename Built _ _ _ _ _ => hB');
  k_dflt (refine LCg.CompSrc.ledger (its := (_ : List Value).toArray) (by rfl) (by k_asm) (by k_asm) mem_v2 (vals_room hB' (by assumption)) ?_; intro g'; refine comp_tups (vals_map (f := shownT) hB') mem_v2 (fun ii' vv' dd' tl' I' oI' C' oC' D' m' ys' h' tk' E' hv' hd' hC' hx' F' N' off' ne' => ?_) (fun ys' tl' hT' => ?_));
  (all_goals (try (obtain ⟨lv', hd1', hIs', hOk'⟩ := vals_item hB' hv' hd'; subst hd1')));
  (all_goals (try k_fold))))
theorem ne3 {a I C D : Addr} {oI oC oD : Obj} {r : List (Addr × Obj)} (h : ∀ p ∈ (I, oI) :: (C, oC) :: (D, oD) :: r, a ≠ p.1) : a ≠ I ∧ a ≠ C ∧ a ≠ D := ⟨h _ (.head _), h _ (.tail _ (.head _)), h _ (.tail _ (.tail _ (.head _)))⟩
local macro_rules | `(tactic| walk_at "call ref") => `(tactic| (
  (with_reducible show wpAny _ _ (call (Value.ref 129) [_]) _ _ _); (rename IsLV _ _ => hIs');
  (with_unfolding_all refine' shown_use hIs' ?kn ?k1 ?k2 ?k3 ?k4 ?k5 ?kK ?kd ?ku ?_); (case kn => k_dflt assumption); (case k4 => k_asm); (case k2 => k_asm); (case k1 => k_asm); (case k3 => k_asm); (case k5 => k_asm); (case kK => k_dflt (exact rfl)); (case kd => ktr_room); (case ku => ktr_units);
  intro b' t1' t2' h' tk' F' N' hne'; (have hne3' := ne3 hne'); (try dsimp only); (try k_fold)))
local macro_rules | `(tactic| walk_at "TupEnd") => `(tactic| (k_dflt (exact TupEnd.intro (by with_reducible assumption) (by assumption) (by assumption))))
local macro_rules | `(tactic| walk_at "compareOp Eq ref ref") => `(tactic| ((with_reducible refine' cmp_values ?kN ?kT ?kT2 ?kq ?ku ?_); (case kN => with_reducible assumption); (case kT => with_reducible assumption); (case kT2 => with_reducible assumption); (case kq => exact pl_vals_ok (by assumption)); (case ku => ktr_units)))
set_option maxRecDepth 100000 in
set_option maxHeartbeats 8000000 in
theorem law0 : PySem.Challenge.rw_vk0006_01.Holds := hd (by
  k_go0
  (all_goals try k_fold)
  repeat' (first | (k_unfold; (try dsimp only)) | walk1 | (dsimp only; walk1))
  all_goals first
    | walk_at "eend"
    | walk_at "fend"
    | (k_end; wrow_close))
end Mine
end
open PySem PySem.W PyProof.Rows
theorem PySem.Challenge.cw_vk0006_01_holds : PySem.Challenge.rw_vk0006_01.Holds := by
  exact Mine.law0
