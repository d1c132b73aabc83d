import PyProof.Rows.All
import Wide.All
import OpenK.AllK
import Wide.FinOn
import Lean
import PySem.Challenge.RW_wn0092_01
open PySem PySem.W PyProof.Rows
set_option Elab.async false
set_option maxRecDepth 100000
set_option maxHeartbeats 8000000
set_option pp.deepTerms false
set_option pp.deepTerms.threshold 12
set_option rowWalk.seconds 0
local macro_rules | `(tactic| k_qdec) => `(tactic| decide +kernel)
local macro_rules | `(tactic| k_ne) => `(tactic| (refine neN ?_; (try dsimp only); first | with_reducible assumption | (with_reducible refine Ne.symm ?_; with_reducible assumption) | with_reducible exact And.left (by assumption) | with_reducible exact Ne.symm (And.left (by assumption)) | with_reducible exact And.left (And.right (by assumption)) | with_reducible exact Ne.symm (And.left (And.right (by assumption))) | with_reducible exact And.left (And.right (And.right (by assumption))) | with_reducible exact Ne.symm (And.left (And.right (And.right (by assumption)))) | with_reducible exact And.left (And.right (And.right (And.right (by assumption)))) | with_reducible exact Ne.symm (And.left (And.right (And.right (And.right (by assumption))))) | with_reducible exact And.left (And.right (And.right (And.right (And.right (by assumption))))) | with_reducible exact Ne.symm (And.left (And.right (And.right (And.right (And.right (by assumption)))))) | with_reducible exact And.right (by assumption) | with_reducible exact Ne.symm (And.right (by assumption)) | with_reducible exact And.right (And.right (by assumption)) | with_reducible exact Ne.symm (And.right (And.right (by assumption))) | with_reducible exact And.right (And.right (And.right (by assumption))) | with_reducible exact Ne.symm (And.right (And.right (And.right (by assumption)))) | with_reducible exact And.right (And.right (And.right (And.right (by assumption)))) | with_reducible exact Ne.symm (And.right (And.right (And.right (And.right (by assumption))))) | omega))
namespace Mine
open_top hd for PySem.Challenge.rw_wn0092_01
end Mine
section
namespace Mine
open PySem.Sre
/-- the pattern's code -/
def reCode : Array Nat := #[14, 8, 1, 2, 4294967295, 1, 1, 46, 0, 16, 46, 24, 9, 1, 4294967295, 13, 4, 8, 0, 0, 1, 6, 5, 1]
def reSt (text : Array Nat) (s : Nat) (o : Bool) (sn : Sre.Seen) : Sre.M :=
  { code := reCode, text := text, lim := text.size, start := s, lastStart := text.size, pc := 9, pos := s, handed := s, outermost := o, marks := #[],
    frames := [{ wait := .nextStart, pc := 9, pos := s, outermost := o }], weight := 1, seen := sn }
theorem re_start (text : Array Nat) (h : 2 ≤ text.size) : Sre.forSearch reCode text 0 0 text.size false = reSt text 0 true (({} : Sre.Seen).add 14) := by
  unfold Sre.forSearch
  have h1 : (Sre.header reCode).1 = 2 := rfl
  have h2 : (Sre.header reCode).2 = 9 := rfl
  simp only [h1, h2]
  have h3 : (decide (0 > text.size) || decide (text.size - 0 < 2)) = false := by simp; omega
  rw [if_neg (by simp; omega)]
  rfl
theorem re_miss (text : Array Nat) (s : Nat) (o : Bool) (sn : Sre.Seen) (hs : s < text.size) (hc : text.getD s 0 ≠ 46) : ∃ sn', M.runFor 2 (reSt text s o sn) = reSt text (s + 1) false sn' := by
  have h1 : (reSt text s o sn).step = { (reSt text s o sn) with seen := sn.add 16, answer := some false } := by
    have h : ¬ s ≥ text.size := by omega
    have hb : (text.getD s 0 == 46) = false := by simpa using hc
    have e : (reSt text s o sn).step = if s ≥ text.size then { (reSt text s o sn) with seen := sn.add 16, answer := some false } else
      match (Except.ok (text.getD s 0 == 46, sn.add 16) : Except String (Bool × Sre.Seen)) with
      | .error why => { (reSt text s o sn) with seen := sn.add 16 }.stick why
      | .ok (false, seen) => { (reSt text s o sn) with seen := seen, answer := some false }
      | .ok (true, seen) => { (reSt text s o sn) with seen := seen, pc := 11, pos := s + 1 } := by rfl
    rw [e, if_neg h, hb]
  refine ⟨sn.add 16, ?_⟩
  show M.runFor 1 ((reSt text s o sn).step) = _
  rw [h1]
  have e : M.runFor 1 { (reSt text s o sn) with seen := sn.add 16, answer := some false } = if s < text.size then reSt text (s + 1) false (sn.add 16) else { (reSt text s o sn) with frames := [], weight := 0, seen := sn.add 16, answer := some false } := by rfl
  rw [e, if_pos hs]
theorem re_acc (c : Nat) (sn : Sre.Seen) : ∃ sn', Sre.accepts reCode 15 c sn = .ok (Sre.isDigit c, sn') := by
  have e : Sre.accepts reCode 15 c sn = (do
      if ← Sre.category 0 c then pure (true, (sn.add 8).add 55) else Sre.inSet reCode c 23 19 true ((sn.add 8).add 55)) := by rfl
  have ec : Sre.category 0 c = .ok (Sre.isDigit c) := by
    have : Sre.category 0 c = .ok (Sre.isDigit c != false) := by rfl
    rw [this]; cases Sre.isDigit c <;> rfl
  rw [e, ec]
  cases h : Sre.isDigit c with
  | true => exact ⟨_, rfl⟩
  | false => exact ⟨_, rfl⟩
/-- the state behind the dot -/
def reDot (text : Array Nat) (s : Nat) (o : Bool) (sn : Sre.Seen) : Sre.M := { (reSt text s o sn) with pc := 11, pos := s + 1 }
theorem re_dot1 (text : Array Nat) (s : Nat) (o : Bool) (sn : Sre.Seen) (hs : s < text.size) (hc : text.getD s 0 = 46) : (reSt text s o sn).step = reDot text s o (sn.add 16) := by
  have h : ¬ s ≥ text.size := by omega
  have hb : (text.getD s 0 == 46) = true := by simpa using hc
  have e : (reSt text s o sn).step = if s ≥ text.size then { (reSt text s o sn) with seen := sn.add 16, answer := some false } else
    match (Except.ok (text.getD s 0 == 46, sn.add 16) : Except String (Bool × Sre.Seen)) with
    | .error why => { (reSt text s o sn) with seen := sn.add 16 }.stick why
    | .ok (false, seen) => { (reSt text s o sn) with seen := seen, answer := some false }
    | .ok (true, seen) => reDot text s o seen := by rfl
  rw [e, if_neg h, hb]
theorem re_dot2 (text : Array Nat) (s : Nat) (o : Bool) (sn : Sre.Seen) (hs : s < text.size) (hd : s + 1 < text.size → Sre.isDigit (text.getD (s + 1) 0) = false) :
    ∃ sn', (reDot text s o sn).step = { (reDot text s o sn) with seen := sn', answer := some false } := by
  have e : (reDot text s o sn).step = if ((1 : Nat) : Int) > (text.size : Int) - ((s + 1 : Nat) : Int) then { (reDot text s o sn) with seen := sn.add 24, answer := some false } else
    match Sre.run reCode text 15 (min 4294967295 ((text.size : Int) - ((s + 1 : Nat) : Int)).toNat) (s + 1) 0 ((sn.add 24).add 13) with
    | .error why => { (reDot text s o sn) with seen := sn.add 24 }.stick why
    | .ok (n, seen) => if n < 1 then { (reDot text s o sn) with seen := seen, answer := some false } else
        ({ (reDot text s o sn) with seen := seen, pos := s + 1 + n }).afterRun .giveBack n (({ (reDot text s o sn) with seen := seen, pos := s + 1 + n } : Sre.M).keep false) := by rfl
  rw [e]
  by_cases h : ((1 : Nat) : Int) > (text.size : Int) - ((s + 1 : Nat) : Int)
  · rw [if_pos h]; exact ⟨_, rfl⟩
  · rw [if_neg h]
    have hs' : s + 1 < text.size := by omega
    obtain ⟨k, hk⟩ : ∃ k, min 4294967295 ((text.size : Int) - ((s + 1 : Nat) : Int)).toNat = k + 1 := ⟨min 4294967295 ((text.size : Int) - ((s + 1 : Nat) : Int)).toNat - 1, by omega⟩
    rw [hk]
    obtain ⟨sn', ha⟩ := re_acc (text.getD (s + 1) 0) ((sn.add 24).add 13)
    have hr : Sre.run reCode text 15 (k + 1) (s + 1) 0 ((sn.add 24).add 13) = .ok (0, sn') := by
      unfold Sre.run
      rw [ha, hd hs']
      rfl
    rw [hr]
    exact ⟨sn', rfl⟩
theorem re_back (text : Array Nat) (s : Nat) (o : Bool) (sn : Sre.Seen) (hs : s < text.size) : M.step { (reDot text s o sn) with answer := some false } = reSt text (s + 1) false sn := by
  have e : M.step { (reDot text s o sn) with answer := some false } = if s < text.size then reSt text (s + 1) false sn else { (reDot text s o sn) with pc := 9, pos := s, frames := [], weight := 0, answer := some false } := by rfl
  rw [e, if_pos hs]
theorem re_dot (text : Array Nat) (s : Nat) (o : Bool) (sn : Sre.Seen) (hs : s < text.size) (hc : text.getD s 0 = 46) (hd : s + 1 < text.size → Sre.isDigit (text.getD (s + 1) 0) = false) :
    ∃ sn', M.runFor 3 (reSt text s o sn) = reSt text (s + 1) false sn' := by
  have h1 := re_dot1 text s o sn hs hc
  obtain ⟨sn', h2⟩ := re_dot2 text s o (sn.add 16) hs hd
  refine ⟨sn', ?_⟩
  show M.runFor 2 ((reSt text s o sn).step) = _
  rw [h1]
  show M.runFor 1 ((reDot text s o (sn.add 16)).step) = _
  rw [h2]
  show M.step _ = _
  exact re_back text s o sn' hs
theorem re_end (text : Array Nat) (o : Bool) (sn : Sre.Seen) : (M.runFor 3 (reSt text text.size o sn)).outcome = some .failed := by
  have e : M.step (reSt text text.size o sn) = if text.size ≥ text.size then { (reSt text text.size o sn) with seen := sn.add 16, answer := some false } else
      match (Except.ok (text.getD text.size 0 == 46, sn.add 16) : Except String (Bool × Sre.Seen)) with
      | .error why => { (reSt text text.size o sn) with seen := sn.add 16 }.stick why
      | .ok (false, seen) => { (reSt text text.size o sn) with seen := seen, answer := some false }
      | .ok (true, seen) => reDot text text.size o seen := by rfl
  show (M.runFor 2 (M.step (reSt text text.size o sn))).outcome = _
  rw [e, if_pos (Nat.le_refl _)]
  have e2 : M.step { (reSt text text.size o sn) with seen := sn.add 16, answer := some false } = if text.size < text.size then reSt text (text.size + 1) false (sn.add 16) else { (reSt text text.size o sn) with frames := [], weight := 0, seen := sn.add 16, answer := some false } := by rfl
  show (M.runFor 1 (M.step _)).outcome = _
  rw [e2, if_neg (Nat.lt_irrefl _)]
  rfl
theorem re_hit (text : Array Nat) (s : Nat) (o : Bool) (sn : Sre.Seen) (hs : s + 2 = text.size) (hc : text.getD s 0 = 46) (hd : Sre.isDigit (text.getD (s + 1) 0) = true) :
    (M.runFor 7 (reSt text s o sn)).outcome = some .matched := by
  have h1 := re_dot1 text s o sn (by omega) hc
  have e : (reDot text s o (sn.add 16)).step = if ((1 : Nat) : Int) > (text.size : Int) - ((s + 1 : Nat) : Int) then { (reDot text s o (sn.add 16)) with seen := (sn.add 16).add 24, answer := some false } else
    match Sre.run reCode text 15 (min 4294967295 ((text.size : Int) - ((s + 1 : Nat) : Int)).toNat) (s + 1) 0 (((sn.add 16).add 24).add 13) with
    | .error why => { (reDot text s o (sn.add 16)) with seen := (sn.add 16).add 24 }.stick why
    | .ok (n, seen) => if n < 1 then { (reDot text s o (sn.add 16)) with seen := seen, answer := some false } else
        ({ (reDot text s o (sn.add 16)) with seen := seen, pos := s + 1 + n }).afterRun .giveBack n (({ (reDot text s o (sn.add 16)) with seen := seen, pos := s + 1 + n } : Sre.M).keep false) := by rfl
  obtain ⟨sn', ha⟩ := re_acc (text.getD (s + 1) 0) (((sn.add 16).add 24).add 13)
  have hk : min 4294967295 ((text.size : Int) - ((s + 1 : Nat) : Int)).toNat = 1 := by omega
  have hr : Sre.run reCode text 15 1 (s + 1) 0 (((sn.add 16).add 24).add 13) = .ok (1, sn') := by
    unfold Sre.run
    rw [ha, hd]
    rfl
  rw [hk, hr, if_neg (by omega)] at e
  simp only [show ¬ (1 : Nat) < 1 from by decide, if_false] at e
  show (M.runFor 6 ((reSt text s o sn).step)).outcome = _
  rw [h1]
  show (M.runFor 5 ((reDot text s o (sn.add 16)).step)).outcome = _
  rw [e]
  generalize sn' = sn2
  -- AT
  let m1 : Sre.M := ({ (reDot text s o (sn.add 16)) with seen := sn2, pos := s + 1 + 1 } : Sre.M).afterRun .giveBack (1 : Nat) (({ (reDot text s o (sn.add 16)) with seen := sn2, pos := s + 1 + 1 } : Sre.M).keep false)
  show (M.runFor 5 m1).outcome = _
  have e3 : m1.step = if (s + 1 + 1 == text.size || (s + 1 + 1 + 1 == text.size && text.getD (s + 1 + 1) 0 == 10)) = true then { m1 with seen := (sn2.add 6).add 48, pc := 23 } else { m1 with seen := (sn2.add 6).add 48, answer := some false } := by rfl
  rw [if_pos (by simp; omega)] at e3
  show (M.runFor 4 m1.step).outcome = _
  rw [e3]
  cases o <;> rfl

theorem run_done (n : Nat) (m : Sre.M) (h : m.outcome.isSome = true) : M.runFor n m = m := by
  cases n with
  | zero => rfl
  | succ k => show (if m.outcome.isSome = true then m else _) = m; rw [if_pos h]
theorem run_add (a b : Nat) (m : Sre.M) : M.runFor (a + b) m = M.runFor b (M.runFor a m) := by
  induction a generalizing m with
  | zero => rw [Nat.zero_add]; rfl
  | succ k ih =>
    by_cases h : m.outcome.isSome = true
    · rw [run_done _ m h, run_done _ m h, run_done _ m h]
    · rw [show k + 1 + b = (k + b) + 1 by omega]
      show (if m.outcome.isSome = true then m else _) = M.runFor b (if m.outcome.isSome = true then m else _)
      rw [if_neg h, if_neg h]
      exact ih _
/-- from a start on: no dot before a figure ahead of place e -/
theorem re_walk (text : Array Nat) (e : Nat) (he : e ≤ text.size) (hd : ∀ i, i < e → text.getD i 0 = 46 → i + 1 < text.size → Sre.isDigit (text.getD (i + 1) 0) = false) :
    ∀ (k s : Nat) (o : Bool) (sn : Sre.Seen), s + k = e → ∃ n o' sn', n ≤ 3 * k ∧ M.runFor n (reSt text s o sn) = reSt text e o' sn' := by
  intro k
  induction k with
  | zero => intro s o sn h; exact ⟨0, o, sn, Nat.le_refl _, by rw [Nat.add_zero] at h; subst h; rfl⟩
  | succ k ih =>
    intro s o sn h
    have hs : s < text.size := by omega
    by_cases hc : text.getD s 0 = 46
    · obtain ⟨sn', h1⟩ := re_dot text s o sn hs hc (hd s (by omega) hc)
      obtain ⟨n, o', sn'', hn, h2⟩ := ih (s + 1) false sn' (by omega)
      exact ⟨3 + n, o', sn'', by omega, by rw [run_add, h1, h2]⟩
    · obtain ⟨sn', h1⟩ := re_miss text s o sn hs hc
      obtain ⟨n, o', sn'', hn, h2⟩ := ih (s + 1) false sn' (by omega)
      exact ⟨2 + n, o', sn'', by omega, by rw [run_add, h1, h2]⟩
/-- the search ends so -/
def ReEnds (text : Array Nat) (r : Sre.Outcome) : Prop := ∃ n, n ≤ 3 * text.size + 10 ∧ (M.runFor n (Sre.forSearch reCode text 0 0 text.size false)).outcome = some r
theorem re_none (text : Array Nat) (hd : ∀ i, text.getD i 0 = 46 → i + 1 < text.size → Sre.isDigit (text.getD (i + 1) 0) = false) : ReEnds text .failed := by
  by_cases h : 2 ≤ text.size
  · obtain ⟨n, o', sn', hn, e⟩ := re_walk text text.size (Nat.le_refl _) (fun i _ => hd i) text.size 0 true (({} : Sre.Seen).add 14) (by omega)
    refine ⟨n + 3, by omega, ?_⟩
    rw [re_start text h, run_add, e]
    exact re_end text o' sn'
  · refine ⟨1, by omega, ?_⟩
    have : Sre.forSearch reCode text 0 0 text.size false = M.say { code := reCode, text, lim := text.size, start := 0, pc := 9, pos := 0, handed := 0, marks := #[], seen := ({} : Sre.Seen).add 14 } false := by
      unfold Sre.forSearch
      have h1 : (Sre.header reCode).1 = 2 := rfl
      have h2 : (Sre.header reCode).2 = 9 := rfl
      simp only [h1, h2]
      rw [if_pos (by simp; omega)]
      rfl
    rw [this]
    rfl
theorem re_some (text : Array Nat) (s : Nat) (hs : s + 2 = text.size) (hc : text.getD s 0 = 46) (hg : Sre.isDigit (text.getD (s + 1) 0) = true)
    (hd : ∀ i, i < s → text.getD i 0 = 46 → i + 1 < text.size → Sre.isDigit (text.getD (i + 1) 0) = false) : ReEnds text .matched := by
  obtain ⟨n, o', sn', hn, e⟩ := re_walk text s (by omega) hd s 0 true (({} : Sre.Seen).add 14) (by omega)
  refine ⟨n + 7, by omega, ?_⟩
  rw [re_start text (by omega), run_add, e]
  exact re_hit text s o' sn' hs hc hg
end Mine
end
section
namespace Mine
/-- what a call of the text's def at f gives back, wherever it stands -/
abbrev Cl (n : Nat) (w : World) (mean : ExcName → Option Value) (mg mb : Str → Option Value) (f : Addr) (news : List (Addr × Obj)) (pre : Prop) (vs : List Value) (R : Tok → Value) : Prop :=
  ∀ {dp un : Nat} {gd : Option (List Code)} {cn : Str} {cs : Scope} {a : Addr} {ccd : Value} {cl : List (Str × Addr)} {outer : List Env} {A₀ : Around} {base h₀ : Heap} {L : Addr} {m : Str → Option Value} {s : Shared} {Q E : Value → Shared → Prop},
    Below A₀ base outer h₀ → Fr h₀ L s.heap m → (hd.heap_39 w.params).In h₀ → News h₀ L s.heap news → Top hd.view_39 (looseW hd.view_39 [Str.ofString "IPV4_RE"]) mean mg mb h₀ → cs.kind = .function →
    pre → dp + n < recursionLimit → un + 400 + 8 * n < cLine →
    (∀ (t : Tok) (h' : Heap) (tk' : Nat), Fr h₀ L h' m → News h₀ L h' news → Q (R t) { s with heap := h', toks := tk' }) →
      wpAny (model PySem.Challenge.pw_wn0092_01 w) (ktrTop dp un gd cn cs L a ccd cl outer) (call (.ref f) vs) Q E s
end Mine
end
section
namespace Mine
open PySem.Calls PySem.Builtin.Re
theorem rp_plain : PlainAttrs "re.Pattern" :=
  ⟨⟨"object.__getattribute__", by rw [typeLookup_type, builtinLookup_eq_fast]; kernel_rfl, by decide +kernel⟩, by rw [typeLookup_type, builtinLookup_eq_fast]; kernel_rfl⟩
theorem rp_slot : Slot "re.Pattern" "search" "re.Pattern.search" :=
  .of (owner := "re.Pattern") (n := "search") (by rw [typeLookup_type, builtinLookup_eq_fast]; kernel_rfl) (by decide +kernel) (by decide +kernel) (by decide +kernel)
    (by first | exact .inl (by decide +kernel) | exact .inr (by decide +kernel)) (by rw [isSubtype_type]; kernel_rfl)
theorem rp_type : typeOf (.builtin "re.Pattern.search") = pure (.type "method_descriptor") := by show builtinType _ = _; rw [builtinType_eq_fast]; kernel_rfl
theorem rp_entry : entryFor table "re.Pattern.search" = some Builtin.«re.Pattern.search» := entryFor_of_tree (by kernel_rfl)
theorem rp_owner : Manifest.owners.lookup (String.ofList ['n', 'r', 'e', 't', 't', 'a', 'P', '.', 'e', 'r'].reverse) = some Manifest.sig_re_Pattern := by kernel_rfl
theorem rp_args (a b : Value) : argsOk "re.Pattern.search" ⟨[a, b], []⟩ := by
  unfold argsOk; rw [signature?_of (id := "re.Pattern.search") (n := ['h', 'c', 'r', 'a', 'e', 's']) (o := ['n', 'r', 'e', 't', 't', 'a', 'P', '.', 'e', 'r']) (by kernel_rfl) rp_owner]; kernel_rfl
theorem rm_noBool : typeLookup (.type "re.Match") "__bool__" = pure none := by rw [typeLookup_type, builtinLookup_eq_fast]; kernel_rfl
theorem rm_noLen : typeLookup (.type "re.Match") "__len__" = pure none := by rw [typeLookup_type, builtinLookup_eq_fast]; kernel_rfl

section
variable {M : Model} {A : Around} {E : Value → Shared → Prop} {s : Shared}
theorem drive_ends {r : Sre.Outcome} {Q : Sre.M → Shared → Prop} (h : ∀ m', m'.outcome = some r → Q m' s) :
    ∀ (T n : Nat) (m : Sre.M), n < 4 * T → (Sre.M.runFor n m).outcome = some r → wpAny M A (reDrive T m) Q E s := by
  intro T
  induction T with
  | zero => intro n m hn; omega
  | succ k ih =>
    intro n m hn ho
    show wpAny M A (if (Sre.M.runFor 4 m).outcome.isSome = true then pure (Sre.M.runFor 4 m) else do rule "sre.turn"; reDrive k (Sre.M.runFor 4 m)) Q E s
    by_cases h1 : (Sre.M.runFor 4 m).outcome.isSome = true
    · rw [if_pos h1]
      refine wpAny_pure (h _ ?_)
      by_cases h4 : n ≤ 4
      · have e : Sre.M.runFor 4 m = Sre.M.runFor n m := by
          have := run_add n (4 - n) m
          rw [show n + (4 - n) = 4 by omega] at this
          rw [this, run_done _ _ (by rw [ho]; rfl)]
        rw [e]; exact ho
      · have e : Sre.M.runFor n m = Sre.M.runFor 4 m := by
          have := run_add 4 (n - 4) m
          rw [show 4 + (n - 4) = n by omega] at this
          rw [this, run_done _ _ h1]
        rw [← e]; exact ho
    · rw [if_neg h1]
      refine wpAny_bind (wpAny_rule ?_)
      have h4 : 4 < n := by
        apply Nat.lt_of_not_le
        intro h4
        apply h1
        have e : Sre.M.runFor 4 m = Sre.M.runFor n m := by
          have := run_add n (4 - n) m
          rw [show n + (4 - n) = 4 by omega] at this
          rw [this, run_done _ _ (by rw [ho]; rfl)]
        rw [e, ho]; rfl
      refine ih (n - 4) _ (by omega) ?_
      rw [← run_add, show 4 + (n - 4) = n by omega]
      exact ho
theorem rules_any {c : Nat → Bool} {tag : Nat → String} {Q : PUnit → Shared → Prop} (h : Q ⟨⟩ s) :
    ∀ l : List Nat, wpAny M A (forIn l PUnit.unit fun i _ => do
      if c i = true then (do rule (tag i); pure (ForInStep.yield PUnit.unit)) else pure (ForInStep.yield PUnit.unit)) Q E s := by
  intro l
  induction l with
  | nil => exact wpAny_pure h
  | cons i l ih =>
    rw [List.forIn_cons]
    refine wpAny_bind ?_
    by_cases hc : c i = true
    · rw [if_pos hc]
      exact wpAny_bind (wpAny_rule (wpAny_pure ih))
    · rw [if_neg hc]
      exact wpAny_pure ih
theorem toEnd_any {r : Sre.Outcome} {m : Sre.M} {Q : Option Sre.M → Shared → Prop} (n : Nat) (hn : n < 2 ^ 60) (ho : (Sre.M.runFor n m).outcome = some r)
    (h : (r = .failed ∧ Q none s) ∨ (r = .matched ∧ ∀ m', Q (some m') s)) : wpAny M A (reRunToEnd m) Q E s := by
  unfold reRunToEnd
  refine wpAny_bind (drive_ends (fun m' ho' => ?_) (2 ^ 64) n m (by omega) ho)
  refine wpAny_bind (rules_any (c := fun i => m'.seen.has i) (tag := fun i => Sre.names.getD i "") ?_ _)
  rw [ho']
  rcases h with ⟨rfl, h⟩ | ⟨rfl, h⟩
  · exact wpAny_pure h
  · exact wpAny_pure (h m')
end
end Mine
end
section
namespace Mine
open PySem.Calls PySem.Builtin.Re PySem.Builtin
def reFields : Array Value := #[.str (Str.ofString "\\.\\d+$") 292, .int 256 319, .int 0 0, .none, .none, .ref 42, .int 0 0]
def reTuple : Array Value := #[.int 14 0, .int 8 0, .int 1 0, .int 2 0, .int 4294967295 0, .int 1 0, .int 1 0, .int 46 0, .int 0 0, .int 16 0, .int 46 0, .int 24 0, .int 9 0, .int 1 0, .int 4294967295 0,
  .int 13 0, .int 4 0, .int 8 0, .int 0 0, .int 0 0, .int 1 0, .int 6 0, .int 5 0, .int 1 0]
theorem rk43 (p : Params) : (hd.heap_39 p).lookup 43 = some { cls := .type "re.Pattern", data := .fields reFields } := by kernel_rfl
theorem rk42 (p : Params) : (hd.heap_39 p).lookup 42 = some { cls := .type "tuple", data := .seq reTuple } := by kernel_rfl
section
variable {M : Model} {A : Around} {E : Value → Shared → Prop} {s : Shared} {x : Str} {t : Tok}
theorem named_any {Q : List (Option Value) → Shared → Prop} (h : Q [some (.str x t), none, none] s) :
    wpAny M A (reNamed "re.Pattern.search" "search" ["string", "pos", "endpos"] 1 [.str x t] []) Q E s := by
  have e : reNamed "re.Pattern.search" "search" ["string", "pos", "endpos"] 1 [.str x t] [] = pure [some (.str x t), none, none] := by rfl
  rw [e]; exact wpAny_pure h
theorem target_any {Q : ReTarget → Shared → Prop} (h43 : s.heap.get? 43 = some { cls := .type "re.Pattern", data := .fields reFields }) (h42 : s.heap.get? 42 = some { cls := .type "tuple", data := .seq reTuple })
    (hx : x.length < 2 ^ 62) (h : Q { pattern := .ref 43, string := .str x t, code := reCode, text := x.cps, kind := 0, groups := 0, pos := 0, lim := x.cps.size } s) :
    wpAny M A (reTarget "re.Pattern.search" "search" ⟨[.ref 43, .str x t], []⟩) Q E s := by
  unfold reTarget
  refine wpAny_bind (named_any ?_)
  refine wpAny_bind (wpAny_pure ?_)
  refine wpAny_bind (wpAny_pure ?_)
  refine wpAny_bind (m := fieldsOf (.ref 43)) (wpAny_bind (wpAny_load h43 (wpAny_pure ?_)))
  refine wpAny_bind (m := reTextOf (.str x t)) (wpAny_bind (wpAny_pure (wpAny_pure ?_)))
  show wpAny M A (do
    reNoCollectionInside (.str x t) 0
    let raw ← reRawItems (.ref 42)
    pure (ReTarget.mk (.ref 43) (.str x t) (raw.map (·.toNat)) x.cps 0 0 (min (0 : Int).toNat x.cps.size) (min ((2 ^ 63 - 1 : Int)).toNat x.cps.size))) Q E s
  refine wpAny_bind (wpAny_pure ?_)
  refine wpAny_bind (m := reRawItems (.ref 42)) (wpAny_bind (m := seqItems? (.ref 42)) (wpAny_bind (wpAny_load h42 (wpAny_pure (wpAny_pure (wpAny_pure ?_))))))
  have e1 : min ((2 ^ 63 - 1 : Int)).toNat x.cps.size = x.cps.size := by
    have : x.cps.size < 2 ^ 62 := hx
    omega
  have e2 : min (0 : Int).toNat x.cps.size = 0 := by simp
  have e3 : Array.map (fun x => x.toNat) (Array.map reRawOf ((some reTuple).getD #[])) = reCode := by decide +kernel
  rw [e1, e2, e3]
  exact h
end
section
variable {w : World} {A : Around} {E : Value → Shared → Prop} {s : Shared} {x : Str} {t : Tok} {h₀ : Heap} {L : Addr} {m : Str → Option Value} {news : List (Addr × Obj)} {prog : Program}
abbrev matchObj (v : Value) (y : Value) : Obj := { cls := .type "re.Match", data := .fields #[v, .ref 43, y] }
/-- the search -/
theorem search_K {r : Sre.Outcome} {Q : Value → Shared → Prop} (X : (hd.heap_39 w.params).In h₀) (F : Fr h₀ L s.heap m) (N : News h₀ L s.heap news) (hx : x.length ≤ 100000) (hr : ReEnds x.cps r)
    (h : (r = .failed ∧ Q .none s) ∨ (r = .matched ∧ ∀ a o h', o.cls = .type "re.Match" → Fr h₀ L h' m → News h₀ L h' ((a, o) :: news) → Q (.ref a) { s with heap := h' })) :
    wpAny (model prog w) A (call (.builtin "re.Pattern.search") [.ref 43, .str x t]) Q E s := by
  have h43 := F.keep _ _ (X _ _ (rk43 _))
  have h42 := F.keep _ _ (X _ _ (rk42 _))
  have hT : s.TypeIs (.ref 43) "re.Pattern" := ⟨_, h43, rfl⟩
  refine wpAny_call (codeAny_call_builtin rp_slot.plain rp_entry (rp_slot.check _ _ _ _ _ _ _ _ hT (rp_args _ _) ?_))
  obtain ⟨n, hn, ho⟩ := hr
  have hs : x.cps.size ≤ 100000 := hx
  refine wpAny_bind (target_any h43 h42 (by omega) ?_)
  refine wpAny_bind (toEnd_any n (by omega) ho ?_)
  rcases h with ⟨rfl, h⟩ | ⟨rfl, h⟩
  · exact .inl ⟨rfl, wpAny_pure h⟩
  · refine .inr ⟨rfl, fun m' => ?_⟩
    show wpAny _ _ (do
      let v ← (do
        let tp ← newTuple [rawInt m'.start, rawInt m'.handed]
        newFields "re.Match" [.str x t, .ref 43, rawInt (0 : Nat), rawInt (x.cps.size : Nat), rawInt m'.lastindex, tp])
      ret v) _ _ _
    refine wpAny_bind (wpAny_bind (wpAny_newObj_type ?_))
    refine wpAny_newObj_type ?_
    refine wpAny_pure ?_
    refine h _ ({ cls := .type "re.Match", data := .fields [.str x t, .ref 43, rawInt (0 : Nat), rawInt (x.cps.size : Nat), rawInt m'.lastindex, .ref s.heap.objs.size].toArray } : Obj) _ rfl ?_ ?_
    · exact (F.push _).push _
    · have N1 := News.push F N ({ cls := .type "tuple", data := .seq [rawInt m'.start, rawInt m'.handed].toArray } : Obj)
      have F1 := F.push ({ cls := .type "tuple", data := .seq [rawInt m'.start, rawInt m'.handed].toArray } : Obj)
      have N2 := News.push F1 N1 ({ cls := .type "re.Match", data := .fields [.str x t, .ref 43, rawInt (0 : Nat), rawInt (x.cps.size : Nat), rawInt m'.lastindex, .ref s.heap.objs.size].toArray } : Obj)
      intro p hp
      rcases List.mem_cons.mp hp with rfl | hp
      · exact N2 _ (.head _)
      · exact N2 _ (.tail _ (.tail _ hp))
theorem match_true {o : Obj} {a : Addr} {Q : Bool → Shared → Prop} (N : News h₀ L s.heap news) (hm : (a, o) ∈ news) (hc : o.cls = .type "re.Match") (h : Q true s) : wpAny (model prog w) A (truthy (.ref a)) Q E s := by
  have hT : s.TypeIs (.ref a) "re.Match" := ⟨o, (N _ hm).1, hc⟩
  unfold truthy
  refine wpAny_bind (m := callSpecial? (.ref a) (Str.ofString "__bool__")) (wpAny_bind (wpAny_specialOf hT rm_noBool (wpAny_pure ?_)))
  exact wpAny_bind (wpAny_specialOf hT rm_noLen (wpAny_pure h))
theorem search_meth {pl : Sem Bool} {Q : Value × List Value → Shared → Prop} (X : (hd.heap_39 w.params).In h₀) (F : Fr h₀ L s.heap m) (h : Q (.builtin "re.Pattern.search", [.ref 43]) s) :
    wpAny (model prog w) A (getMethod (.ref 43) "search" pl) Q E s := by
  have h43 := F.keep _ _ (X _ _ (rk43 _))
  exact getMethod_builtin ⟨_, h43, rfl⟩ rp_plain rp_slot rp_type (fun a e => by cases e; exact ⟨_, h43, rfl⟩) h
end
end Mine
end
section
namespace Mine
def ipF (x : Str) : Bool := x.cps.toList.any Sre.isDigit
def ipOk (x : Str) : Prop := ReEnds x.cps (if ipF x then .matched else .failed)
section
variable {w : World} {A : Around} {E : Value → Shared → Prop} {s : Shared} {x : Str} {t : Tok} {h₀ : Heap} {L : Addr} {m : Str → Option Value} {news : List (Addr × Obj)} {prog : Program}
theorem search_ip {Q : Value → Shared → Prop} (F : Fr h₀ L s.heap m) (N : News h₀ L s.heap news) (X : (hd.heap_39 w.params).In h₀) (hx : x.length ≤ 100000) (hr : ipOk x)
    (h0 : ipF x = false → Q .none s) (h1 : ipF x = true → ∀ a o h', o.cls = .type "re.Match" → Fr h₀ L h' m → News h₀ L h' ((a, o) :: news) → Q (.ref a) { s with heap := h' }) :
    wpAny (model prog w) A (call (.builtin "re.Pattern.search") [.ref 43, .str x t]) Q E s := by
  unfold ipOk at hr
  cases hi : ipF x with
  | true => rw [hi] at hr; exact search_K X F N hx hr (.inr ⟨rfl, h1 hi⟩)
  | false => rw [hi] at hr; exact search_K X F N hx hr (.inl ⟨rfl, h0 hi⟩)
end
local macro_rules | `(tactic| walk_at "getMethod ref") => `(tactic| (k_here; (with_reducible show wpAny _ _ (getMethod (Value.ref 43) _ _) _ _ _); refine' search_meth ?X ?F ?_; (case F => k_asm); (case X => k_asm)))
local macro_rules | `(tactic| walk_at "call builtin:re.Pattern.search") => `(tactic| (k_here; refine' search_ip ?F ?N ?X ?hx ?hr ?_ ?_; (case F => k_asm); (case N => k_asm); (case X => k_asm); (case hx => omega); (case hr => assumption); (all_goals intro hip'); (rotate_left; intro a' o' h' hc' F' N')))
local macro_rules | `(tactic| walk_at "truthy ref") => `(tactic| (k_here; refine' match_true ?N ?hm ?hc ?_; (case N => k_asm); (case hm => k_mem); (case hc => assumption)))
def hdnF (x : Str) : Bool := !ipF x && !(x == Str.ofString "") && !(Txt.item x 0 == Str.ofString ".") && !(Txt.item x (-1) == Str.ofString ".")
theorem hdn {w : World} {mean mg mb} {news : List (Addr × Obj)} {a : Str} {ta : Tok} : Cl 1 w mean mg mb 50 news (a.length ≤ 100000 ∧ ipOk a) [.str a ta] (fun _ => .bool (hdnF a)) := by
  unfold Cl; intros; rename_i hpre _ _ hret
  obtain ⟨hp1, hp2⟩ := hpre
  w_top off
  refine wpAny_call ?_
  cell_enter
  k_steps
  all_goals (refine' cb_retB hret ?e1 ?e2 ?e3; (case e2 => k_asm); (case e3 => first | k_asm | (refine' cb_drop ?cbN ?cbS; (case cbN => assumption); (case cbS => kcj_all))); (case e1 => (clear hret; simp_all [hdnF])))
theorem lhdn {w : World} {mean mg mb} {news : List (Addr × Obj)} {a : Str} {ta : Tok} : Cl 1 w mean mg mb 64 news (a.length ≤ 100000 ∧ ipOk a) [.str a ta] (fun _ => .bool (!ipF a)) := by
  unfold Cl; intros; rename_i hpre _ _ hret
  obtain ⟨hp1, hp2⟩ := hpre
  w_top off
  refine wpAny_call ?_
  cell_enter
  k_steps
  all_goals (refine' cb_retB hret ?e1 ?e2 ?e3; (case e2 => k_asm); (case e3 => first | k_asm | (refine' cb_drop ?cbN ?cbS; (case cbN => assumption); (case cbS => kcj_all))); (case e1 => (clear hret; simp_all)))
local macro_rules | `(tactic| walk_at "call ref") => `(tactic| (k_here; (with_reducible show wpAny _ _ (call (Value.ref 50) _) _ _ _); k_dflt (refine' hdn ?k1 ?k2 ?k3 ?k4 ?k5 ?kK ?kp ?kd ?ku ?_); (case k1 => k_asm); (case k2 => k_asm); (case k3 => k_asm); (case k4 => k_asm); (case k5 => k_asm); (case kK => first | exact rfl | assumption); (case kp => exact ⟨by omega, by assumption⟩); (case kd => ktr_room); (case ku => ktr_units); intro t9 h9 tk9 F9 N9; (try dsimp only); (try k_fold)))
local macro_rules | `(tactic| walk_at "call ref") => `(tactic| (k_here; (with_reducible show wpAny _ _ (call (Value.ref 64) _) _ _ _); k_dflt (refine' lhdn ?k1 ?k2 ?k3 ?k4 ?k5 ?kK ?kp ?kd ?ku ?_); (case k1 => k_asm); (case k2 => k_asm); (case k3 => k_asm); (case k4 => k_asm); (case k5 => k_asm); (case kK => first | exact rfl | assumption); (case kp => exact ⟨by omega, by assumption⟩); (case kd => ktr_room); (case ku => ktr_units); intro t9 h9 tk9 F9 N9; (try dsimp only); (try k_fold)))
def udmF (a b : Str) : Bool :=
  if ipF (Txt.lower a) = true ∨ ipF (Txt.lower b) = true then Txt.lower a == Txt.lower b
  else (Txt.startswith (Txt.lower b) (Str.ofString ".") && Txt.endswith (Txt.lower a) (Txt.lower b)) || (!Txt.startswith (Txt.lower b) (Str.ofString ".") && (Txt.lower a == Txt.lower b))
def dmF (a b : Str) : Bool :=
  Txt.lower a == Txt.lower b || (hdnF (Txt.lower a) && decide (Txt.rfind (Txt.lower a) (Txt.lower b) ≠ -1) && decide (Txt.rfind (Txt.lower a) (Txt.lower b) ≠ 0) &&
    Txt.startswith (Txt.lower b) (Str.ofString ".") && hdnF (Txt.slice (Txt.lower b) (some 1) none))
theorem udm {w : World} {mean mg mb} {news : List (Addr × Obj)} {a : Str} {ta : Tok} {b : Str} {tb : Tok} : Cl 2 w mean mg mb 71 news (a.length ≤ 1000 ∧ b.length ≤ 1000 ∧ ipOk (Txt.lower a) ∧ ipOk (Txt.lower b)) [.str a ta, .str b tb] (fun _ => .bool (udmF a b)) := by
  unfold Cl; intros; rename_i hpre _ _ hret
  obtain ⟨hp1, hp2, hp3, hp4⟩ := hpre
  w_top off
  refine wpAny_call ?_
  cell_enter
  k_steps
  all_goals (refine' cb_retB hret ?e1 ?e2 ?e3; (case e2 => k_asm); (case e3 => first | k_asm | (refine' cb_drop ?cbN ?cbS; (case cbN => assumption); (case cbS => kcj_all))); (case e1 => (clear hret; first | (simp_all [udmF]; done) | (fail "left"))))
theorem dm {w : World} {mean mg mb} {news : List (Addr × Obj)} {a : Str} {ta : Tok} {b : Str} {tb : Tok} : Cl 2 w mean mg mb 57 news (a.length ≤ 1000 ∧ b.length ≤ 1000 ∧ ipOk (Txt.lower a) ∧ (Txt.slice (Txt.lower b) (some 1) none).length ≤ 100000 ∧ ipOk (Txt.slice (Txt.lower b) (some 1) none)) [.str a ta, .str b tb] (fun _ => .bool (dmF a b)) := by
  unfold Cl; intros; rename_i hpre _ _ hret
  obtain ⟨hp1, hp2, hp3, hp4, hp5⟩ := hpre
  w_top off
  refine wpAny_call ?_
  cell_enter
  k_steps
  all_goals (refine' cb_retB hret ?e1 ?e2 ?e3; (case e2 => k_asm); (case e3 => first | k_asm | (refine' cb_drop ?cbN ?cbS; (case cbN => assumption); (case cbS => kcj_all))); (case e1 => (clear hret; first | (simp_all [dmF]; done) | (fail "left"))))
end Mine
end
section
namespace Mine
local macro_rules | `(tactic| walk_at "call ref") => `(tactic| (k_here; (with_reducible show wpAny _ _ (call (Value.ref 50) _) _ _ _); k_dflt (refine' hdn ?k1 ?k2 ?k3 ?k4 ?k5 ?kK ?kp ?kd ?ku ?_); (case k1 => k_asm); (case k2 => k_asm); (case k3 => k_asm); (case k4 => k_asm); (case k5 => k_asm); (case kK => first | exact rfl | assumption); (case kp => exact ⟨by omega, by assumption⟩); (case kd => ktr_room); (case ku => ktr_units); intro t9 h9 tk9 F9 N9; (try dsimp only); (try k_fold)))
def reachF (a : Str) : Str :=
  if 0 ≤ Txt.find a (Str.ofString ".") ∧ hdnF a = true ∧ (0 ≤ Txt.find (Txt.slice a (some (Txt.find a (Str.ofString ".") + 1)) none) (Str.ofString ".") ∨ (Txt.slice a (some (Txt.find a (Str.ofString ".") + 1)) none == Str.ofString "local") = true)
  then Str.ofString "." ++ Txt.slice a (some (Txt.find a (Str.ofString ".") + 1)) none else a
theorem reach' {w : World} {mean mg mb} {news : List (Addr × Obj)} {a : Str} {ta : Tok} : Cl 2 w mean mg mb 78 news (a.length ≤ 1000 ∧ ipOk a) [.str a ta] (fun t => .str (reachF a) t) := by
  unfold Cl; intros; rename_i hpre _ _ hret
  obtain ⟨hp1, hp2⟩ := hpre
  w_top off
  refine wpAny_call ?_
  cell_enter
  k_steps
  all_goals (refine' cb_retS hret ?e1 ?e2 ?e3; (case e2 => k_asm); (case e3 => first | k_asm | (refine' cb_drop ?cbN ?cbS; (case cbN => assumption); (case cbS => kcj_all))); (case e1 => (clear hret; first | (simp_all [reachF]; done) | ((simp_all [reachF]); omega) | (fail "left"))))
theorem replaceT {prog : Program} {w : World} {A : Around} {E : Value → Shared → Prop} {s : Shared} {x y z : Str} {t u v : Tok} {Q : Value → Shared → Prop} (hu : @LT.lt Nat _ 0 u) (huv : @LT.lt Nat _ u v) (hyz : (y == z) = false) (hx : x.length ≤ 1048576) (hz : z.length ≤ 14)
    (hq : ∀ t' k, s.toks ≤ k → Q (.str (Txt.replace x y z) t') { s with toks := k }) : wpAny (model prog w) A (call (.builtin "str.replace") [.str x t, .str y u, .str z v]) Q E s :=
  wpAny_with_toks (Nat.le_refl _) (SC.replaceW (Nat.ne_of_gt hu) (Nat.ne_of_gt (Nat.lt_trans hu huv)) (Nat.ne_of_lt huv) hyz hx hz fun t' k hk => hq t' k hk)
local macro_rules | `(tactic| walk_at "call builtin:str.replace") => `(tactic| (k_here; (refine replaceT (by first | exact Nat.succ_pos _ | (exact Nat.lt_of_lt_of_le (Nat.succ_pos _) (by assumption))) (by exact Nat.lt_succ_self _) (by decide) (by omega) (by decide) ?_); intro t9 k9 hk9; (try dsimp only at hk9)))
def wayF (a : Str) : Str := Str.ofString "/" ++ Txt.replace (Txt.replace a (Str.ofString ".") (Str.ofString "/")) (Str.ofString "B") (Str.ofString "a")
theorem way {w : World} {mean mg mb} {news : List (Addr × Obj)} {a : Str} {ta : Tok} : Cl 1 w mean mg mb 145 news (a.length ≤ 1000 ∧ (Txt.replace a (Str.ofString ".") (Str.ofString "/")).length ≤ 1000 ∧ (Txt.replace (Txt.replace a (Str.ofString ".") (Str.ofString "/")) (Str.ofString "B") (Str.ofString "a")).length ≤ 1000) [.str a ta] (fun t => .str (wayF a) t) := by
  unfold Cl; intros; rename_i hpre _ _ hret
  obtain ⟨hp1, hp2, hp3⟩ := hpre
  w_top off
  refine wpAny_call ?_
  cell_enter
  k_steps
  all_goals (refine' cb_retS hret ?e1 ?e2 ?e3; (case e2 => k_asm); (case e3 => first | k_asm | (refine' cb_drop ?cbN ?cbS; (case cbN => assumption); (case cbS => kcj_all))); (case e1 => (clear hret; first | rfl | (simp_all [wayF]; done) | (fail "left"))))
end Mine
end
section
namespace Mine
abbrev tupO (vs : List Value) : Obj := { cls := .type "tuple", data := .seq vs.toArray }
/-- a turn's end: what the loop goes on with -/
def LEnd (h₀ : Heap) (L : Addr) (J : (Str → Option Value) → List (Addr × Obj) → Prop) (it : Addr) (io : Obj) (s₁ : Shared) (Q : Flow → Shared → Prop) (f : Flow) (s₂ : Shared) : Prop :=
  match f with
  | .ret v => Q (.ret v) s₂
  | .brk => Q .next s₂
  | _ => ∃ h' tk m' led', s₂ = { s₁ with heap := h', toks := tk } ∧ Fr h₀ L h' m' ∧ News h₀ L h' ((it, io) :: led') ∧ (∀ p ∈ led', p.1 ≠ it) ∧ J m' led'
theorem LEnd.intro {h₀ : Heap} {L : Addr} {J : (Str → Option Value) → List (Addr × Obj) → Prop} {it : Addr} {io : Obj} {s₁ : Shared} {Q : Flow → Shared → Prop} {h' : Heap} {tk : Nat} {m' : Str → Option Value} {all : List (Addr × Obj)} (led' : List (Addr × Obj))
    (F : Fr h₀ L h' m') (N : News h₀ L h' all) (hs : ∀ p ∈ (it, io) :: led', p ∈ all) (ha : ∀ p ∈ led', p.1 ≠ it) (hj : J m' led') : LEnd h₀ L J it io s₁ Q .next { s₁ with heap := h', toks := tk } :=
  ⟨h', tk, m', led', rfl, F, fun p hp => N p (hs p hp), ha, hj⟩
section
variable {prog : Program} {w : World} {A : Around} {E : Value → Shared → Prop} {s : Shared} {env : Env} {h₀ : Heap} {x : Str} {body : List Stmt} {Q : Flow → Shared → Prop}
/-- a loop over a list of the ledger -/
theorem iter_led {l : Addr} {vs : List Value} {nn : Nat} {m₀ : Str → Option Value} {led₀ : List (Addr × Obj)} (J : Nat → (Str → Option Value) → List (Addr × Obj) → Prop)
    (hh : A.handled = none) (F : Fr h₀ env.locals s.heap m₀) (N : News h₀ env.locals s.heap led₀) (hl : ∀ i m led, J i m led → (l, listOf vs.toArray nn) ∈ led) (hj : J 0 m₀ led₀)
    (turn : ∀ i v m₁ led₁ h tk (it : Addr) (io : Obj), vs[i]? = some v → J i m₁ led₁ → (∀ p ∈ led₁, p.1 ≠ it) → Fr h₀ env.locals h (fun y => if y = x then some v else m₁ y) → News h₀ env.locals h ((it, io) :: led₁) →
      wpAny (model prog w) A (execs body env) (LEnd h₀ env.locals (J (i + 1)) it io { s with heap := h, toks := tk } Q) E { s with heap := h, toks := tk })
    (done : ∀ m₁ led₁ h tk, J vs.length m₁ led₁ → Fr h₀ env.locals h m₁ → News h₀ env.locals h led₁ → Q .next { s with heap := h, toks := tk }) :
    wpAny (model prog w) A (pyIter (.ref l)) (fun it s₂ => LoopAtV prog w A h₀ env x body Q E it s₂) E s := by
  have hm0 := hl 0 m₀ led₀ hj
  have hls : s.heap.IsList l vs.toArray := ⟨_, (N _ hm0).1, rfl, _, rfl⟩
  have hlt : l < s.heap.objs.size := Heap.lt_size (N _ hm0).1
  have hne : l ≠ s.heap.objs.size := Nat.ne_of_lt hlt
  have hlL : l ≠ env.locals := (N _ hm0).2.1
  have hl0 : h₀.get? l = none := (N _ hm0).2.2
  refine wpAny_pyIter_list hls ?_
  have W := Walks.list (prog := prog) (w := w) hh s.heap.objs.size l hne vs.toArray
  rw [List.size_toArray] at W
  have hItL : env.locals ≠ s.heap.objs.size := Nat.ne_of_lt F.ns.lt
  refine ⟨_, _, _, vs.length, _, _, m₀, led₀, J, rfl, W, ?_, ?_, ?_, ⟨⟨_, Heap.get?_push_size _ rfl, rfl, rfl⟩, hls.at fun o e => Heap.get?_push_of_some _ e⟩, F.push _, (fun p hp => ⟨Heap.get?_push_of_some _ (N p hp).1, (N p hp).2⟩), hj, ?_, ?_⟩
  · intro hm
    rcases List.mem_cons.mp hm with e | hm
    · exact hItL e
    · exact hlL (List.mem_singleton.mp hm).symm
  · intro b hb
    rw [List.mem_singleton.mp hb]
    exact next_is_new F
  · intro p hp hI
    exact absurd (Heap.lt_size (N p hp).1) ((List.mem_singleton.mp hI) ▸ Nat.lt_irrefl _)
  · rintro i v m₁ led₁ s₁ own ⟨hh', tk', rfl⟩ hin hP hJ hoff hown hget hall hst F₁ N₁
    obtain ⟨⟨io, hio, _⟩, _⟩ := hst
    have hItm : (s.heap.objs.size, io) ∈ own := hall _ (.head _) (next_is_new F) io hio
    have hle := hl i m₁ led₁ hJ
    have hoff' : ∀ p ∈ led₁, p.1 ≠ s.heap.objs.size := fun p hp e => hoff p hp (List.mem_singleton.mpr e)
    refine wpAny_mono (turn i v m₁ led₁ hh' tk' s.heap.objs.size io (by simpa using hP) hJ hoff' F₁ (fun p hp => ?_)) (fun f s₂ q => ?_) fun _ _ e => e
    · rcases List.mem_cons.mp hp with rfl | hp
      · exact N₁ _ (List.mem_append_left _ hItm)
      · exact N₁ _ (List.mem_append_right _ hp)
    · have fin : (∃ h' tk m' led', s₂ = { ({ s with heap := hh', toks := tk' } : Shared) with heap := h', toks := tk } ∧ Fr h₀ env.locals h' m' ∧ News h₀ env.locals h' ((s.heap.objs.size, io) :: led') ∧ (∀ p ∈ led', p.1 ≠ s.heap.objs.size) ∧ J (i + 1) m' led') →
          LoopStepU h₀ env.locals [s.heap.objs.size] own (J (i + 1)) { s with heap := hh', toks := tk' } .next s₂ := by
        rintro ⟨h', tk, m', led', e, F', N', ho, hj'⟩
        refine ⟨rfl, h', tk, m', led', e, F', fun p hp => ?_, fun p hp q => ho p hp (List.mem_singleton.mp q), hj'⟩
        rcases List.mem_append.mp hp with h1 | h1
        · have hg := hget p h1
          rcases List.mem_cons.mp (hown p h1) with e1 | e1
          · have : p = (s.heap.objs.size, io) := by
              obtain ⟨a, o⟩ := p
              simp only at e1 hg
              subst e1
              rw [hio] at hg
              cases hg; rfl
            subst this
            exact N' _ (.head _)
          · have e2 := List.mem_singleton.mp e1
            have hg2 := (N₁ _ (List.mem_append_right own hle)).1
            have : p = (l, listOf vs.toArray nn) := by
              obtain ⟨a, o⟩ := p
              simp only at e2 hg
              subst e2
              rw [hg] at hg2
              cases hg2; rfl
            subst this
            exact N' _ (.tail _ (hl _ _ _ hj'))
        · exact N' _ (.tail _ h1)
      cases f with
      | ret v => exact .ret q
      | brk => exact .brk q
      | next => exact .next (fin q)
      | cont => exact .cont (fin q)
  · intro h' tk m' led' F' N' _ hJ
    exact done m' led' h' tk hJ F' N'
/-- a loop over a range by ones -/
theorem iter_rng {r : Addr} {a₀ b₀ : Int} {t₀ u₀ v₀ : Tok} {n : Nat} {m₀ : Str → Option Value} {led₀ : List (Addr × Obj)} (J : Nat → (Str → Option Value) → List (Addr × Obj) → Prop)
    (hh : A.handled = none) (hr : IsRange s.heap r a₀ b₀ 1 t₀ u₀ v₀) (hsmall : Builtin.Range.small a₀ b₀ 1 = true) (hn : Builtin.Range.rangeSize a₀ b₀ 1 = (n : Int)) (F : Fr h₀ env.locals s.heap m₀) (N : News h₀ env.locals s.heap led₀) (hj : J 0 m₀ led₀)
    (turn : ∀ i t m₁ led₁ h tk (it : Addr) (io : Obj), i < n → J i m₁ led₁ → (∀ p ∈ led₁, p.1 ≠ it) → Fr h₀ env.locals h (fun y => if y = x then some (.int (a₀ + (i : Int)) t) else m₁ y) → News h₀ env.locals h ((it, io) :: led₁) →
      wpAny (model prog w) A (execs body env) (LEnd h₀ env.locals (J (i + 1)) it io { s with heap := h, toks := tk } Q) E { s with heap := h, toks := tk })
    (done : ∀ m₁ led₁ h tk, J n m₁ led₁ → Fr h₀ env.locals h m₁ → News h₀ env.locals h led₁ → Q .next { s with heap := h, toks := tk }) :
    wpAny (model prog w) A (pyIter (.ref r)) (fun it s₂ => LoopAtV prog w A h₀ env x body Q E it s₂) E s := by
  refine wpAny_pyIter_range hr hsmall ?_
  have W := LCg.range_walks (prog := prog) (w := w) (I := s.heap.objs.size) hh a₀ n
  have hItL : env.locals ≠ s.heap.objs.size := Nat.ne_of_lt F.ns.lt
  refine ⟨_, _, _, n, _, _, m₀, led₀, J, rfl, W, ?_, ?_, ?_, (by show IsRangeIter _ _ _ _ _; rw [hn]; simpa using Heap.get?_push_size _ rfl), F.push _, (fun p hp => ⟨Heap.get?_push_of_some _ (N p hp).1, (N p hp).2⟩), hj, ?_, ?_⟩
  · intro hm; exact hItL (List.mem_singleton.mp hm)
  · intro b hb
    rw [List.mem_singleton.mp hb]
    exact next_is_new F
  · intro p hp hI
    exact absurd (Heap.lt_size (N p hp).1) ((List.mem_singleton.mp hI) ▸ Nat.lt_irrefl _)
  · rintro i v m₁ led₁ s₁ own ⟨hh', tk', rfl⟩ hin ⟨t, rfl⟩ hJ hoff hown hget hall hst F₁ N₁
    obtain ⟨io, hio⟩ : ∃ io, hh'.get? s.heap.objs.size = some io := ⟨_, hst⟩
    have hItm : (s.heap.objs.size, io) ∈ own := hall _ (.head _) (next_is_new F) io hio
    have hoff' : ∀ p ∈ led₁, p.1 ≠ s.heap.objs.size := fun p hp e => hoff p hp (List.mem_singleton.mpr e)
    refine wpAny_mono (turn i t m₁ led₁ hh' tk' s.heap.objs.size io hin hJ hoff' F₁ (fun p hp => ?_)) (fun f s₂ q => ?_) fun _ _ e => e
    · rcases List.mem_cons.mp hp with rfl | hp
      · exact N₁ _ (List.mem_append_left _ hItm)
      · exact N₁ _ (List.mem_append_right _ hp)
    · have fin : (∃ h' tk m' led', s₂ = { ({ s with heap := hh', toks := tk' } : Shared) with heap := h', toks := tk } ∧ Fr h₀ env.locals h' m' ∧ News h₀ env.locals h' ((s.heap.objs.size, io) :: led') ∧ (∀ p ∈ led', p.1 ≠ s.heap.objs.size) ∧ J (i + 1) m' led') →
          LoopStepU h₀ env.locals [s.heap.objs.size] own (J (i + 1)) { s with heap := hh', toks := tk' } .next s₂ := by
        rintro ⟨h', tk, m', led', e, F', N', ho, hj'⟩
        refine ⟨rfl, h', tk, m', led', e, F', fun p hp => ?_, fun p hp q => ho p hp (List.mem_singleton.mp q), hj'⟩
        rcases List.mem_append.mp hp with h1 | h1
        · have hg := hget p h1
          have e1 := List.mem_singleton.mp (hown p h1)
          have : p = (s.heap.objs.size, io) := by
            obtain ⟨a, o⟩ := p
            simp only at e1 hg
            subst e1
            rw [hio] at hg
            cases hg; rfl
          subst this
          exact N' _ (.head _)
        · exact N' _ (.tail _ h1)
      cases f with
      | ret v => exact .ret q
      | brk => exact .brk q
      | next => exact .next (fin q)
      | cont => exact .cont (fin q)
  · intro h' tk m' led' F' N' _ hJ
    exact done m' led' h' tk hJ F' N'
end
end Mine
namespace Mine
/-- the state between the turns -/
def StJ {σ : Type} (Led : σ → List (Addr × Obj)) (ps : σ → List (Str × Value)) (x : Str) (stored : List Str) (m₀ : Str → Option Value) (P : Nat → σ → Prop) (i : Nat) (m : Str → Option Value) (led : List (Addr × Obj)) : Prop :=
  ∃ c : σ, led = Led c ∧ (∀ p ∈ ps c, m p.1 = some p.2) ∧ (∀ z, z ≠ x → (∀ p ∈ ps c, z ≠ p.1) → stored.contains z = false → m z = m₀ z) ∧ P i c
section
variable {prog : Program} {w : World} {A : Around} {E : Value → Shared → Prop} {s : Shared} {env : Env} {h₀ : Heap} {x : Str} {body : List Stmt} {Q : Flow → Shared → Prop}
theorem st_led {σ : Type} {l : Addr} {vs : List Value} {nn : Nat} {m₀ : Str → Option Value} (Led : σ → List (Addr × Obj)) (ps : σ → List (Str × Value)) (stored : List Str) (P : Nat → σ → Prop) (c₀ : σ)
    (hh : A.handled = none) (F : Fr h₀ env.locals s.heap m₀) (N : News h₀ env.locals s.heap (Led c₀)) (hl : ∀ c, (l, listOf vs.toArray nn) ∈ Led c) (hk : ∀ p ∈ ps c₀, m₀ p.1 = some p.2) (hp : P 0 c₀)
    (turn : ∀ i v c (u : Str → Option Value) h tk (it : Addr) (io : Obj), vs[i]? = some v → P i c → (∀ p ∈ Led c, p.1 ≠ it) →
      Fr h₀ env.locals h (fun y => if y = x then some v else kstB (fun z => if stored.contains z then u z else m₀ z) (ps c) y) → News h₀ env.locals h ((it, io) :: Led c) →
      wpAny (model prog w) A (execs body env) (LEnd h₀ env.locals (StJ Led ps x stored m₀ P (i + 1)) it io { s with heap := h, toks := tk } Q) E { s with heap := h, toks := tk })
    (done : ∀ c (u : Str → Option Value) h tk, P vs.length c → Fr h₀ env.locals h (fun y => if y = x then u y else kstB (fun z => if stored.contains z then u z else m₀ z) (ps c) y) → News h₀ env.locals h (Led c) → Q .next { s with heap := h, toks := tk }) :
    wpAny (model prog w) A (pyIter (.ref l)) (fun it s₂ => LoopAtV prog w A h₀ env x body Q E it s₂) E s := by
  refine iter_led (vs := vs) (nn := nn) (StJ Led ps x stored m₀ P) hh F N ?_ ⟨c₀, rfl, hk, fun _ _ _ _ => rfl, hp⟩ ?_ ?_
  · rintro i m led ⟨c, rfl, _⟩
    exact hl c
  · rintro i v m₁ led₁ h tk it io hv ⟨c, rfl, h1, h2, hP⟩ ho F₁ N₁
    exact turn i v c m₁ h tk it io hv hP ho (kst_fr h1 h2 F₁) N₁
  · rintro m₁ led₁ h tk ⟨c, rfl, h1, h2, hP⟩ F₁ N₁
    exact done c m₁ h tk hP (kst_frOut h1 h2 F₁) N₁
theorem st_rng {σ : Type} {r : Addr} {a₀ b₀ : Int} {t₀ u₀ v₀ : Tok} {n : Nat} {m₀ : Str → Option Value} (Led : σ → List (Addr × Obj)) (ps : σ → List (Str × Value)) (stored : List Str) (P : Nat → σ → Prop) (c₀ : σ)
    (hh : A.handled = none) (hr : IsRange s.heap r a₀ b₀ 1 t₀ u₀ v₀) (hsmall : Builtin.Range.small a₀ b₀ 1 = true) (hn : Builtin.Range.rangeSize a₀ b₀ 1 = (n : Int)) (F : Fr h₀ env.locals s.heap m₀) (N : News h₀ env.locals s.heap (Led c₀)) (hk : ∀ p ∈ ps c₀, m₀ p.1 = some p.2) (hp : P 0 c₀)
    (turn : ∀ i t c (u : Str → Option Value) h tk (it : Addr) (io : Obj), i < n → P i c → (∀ p ∈ Led c, p.1 ≠ it) →
      Fr h₀ env.locals h (fun y => if y = x then some (.int (a₀ + (i : Int)) t) else kstB (fun z => if stored.contains z then u z else m₀ z) (ps c) y) → News h₀ env.locals h ((it, io) :: Led c) →
      wpAny (model prog w) A (execs body env) (LEnd h₀ env.locals (StJ Led ps x stored m₀ P (i + 1)) it io { s with heap := h, toks := tk } Q) E { s with heap := h, toks := tk })
    (done : ∀ c (u : Str → Option Value) h tk, P n c → Fr h₀ env.locals h (fun y => if y = x then u y else kstB (fun z => if stored.contains z then u z else m₀ z) (ps c) y) → News h₀ env.locals h (Led c) → Q .next { s with heap := h, toks := tk }) :
    wpAny (model prog w) A (pyIter (.ref r)) (fun it s₂ => LoopAtV prog w A h₀ env x body Q E it s₂) E s := by
  refine iter_rng (StJ Led ps x stored m₀ P) hh hr hsmall hn F N ⟨c₀, rfl, hk, fun _ _ _ _ => rfl, hp⟩ ?_ ?_
  · rintro i t m₁ led₁ h tk it io hi ⟨c, rfl, h1, h2, hP⟩ ho F₁ N₁
    exact turn i t c m₁ h tk it io hi hP ho (kst_fr h1 h2 F₁) N₁
  · rintro m₁ led₁ h tk ⟨c, rfl, h1, h2, hP⟩ F₁ N₁
    exact done c m₁ h tk hP (kst_frOut h1 h2 F₁) N₁
theorem st_end {σ : Type} {Led : σ → List (Addr × Obj)} {ps : σ → List (Str × Value)} {stored : List Str} {m₀ : Str → Option Value} {P : Nat → σ → Prop} {i : Nat} {L : Addr} {m' : Str → Option Value} {all : List (Addr × Obj)} {it : Addr} {io : Obj} {s₁ : Shared} {h' : Heap} {tk : Nat} (c : σ)
    (F : Fr h₀ L h' m') (N : News h₀ L h' all) (hs : ∀ p ∈ (it, io) :: Led c, p ∈ all) (ha : ∀ p ∈ Led c, p.1 ≠ it) (hk : ∀ p ∈ ps c, m' p.1 = some p.2)
    (hr : ∀ z, z ≠ x → (∀ p ∈ ps c, z ≠ p.1) → stored.contains z = false → m' z = m₀ z) (hp : P i c) : LEnd h₀ L (StJ Led ps x stored m₀ P i) it io s₁ Q .next { s₁ with heap := h', toks := tk } :=
  LEnd.intro (Led c) F N hs ha ⟨c, rfl, hk, hr, hp⟩
end
end Mine

namespace Mine
section
variable {prog : Program} {w : World} {A : Around} {E : Value → Shared → Prop} {s : Shared} {h₀ : Heap} {L : Addr} {news : List (Addr × Obj)}
theorem item_led {value slice : PySem.Expr} {l : Addr} {vs : List Value} {nn : Nat} {k : Int} {u : Tok} {v : Value} {Q : Value → Shared → Prop} (N : News h₀ L s.heap news) (hm : (l, listOf vs.toArray nn) ∈ news)
    (h0 : 0 ≤ k) (hhi : k < 2 ^ 63) (hx : vs[k.toNat]? = some v) (h : Q v s)
    (hs : subscripted slice false (.ref l) (.int k u) = operate [.ref l, .int k u] (getItem (.ref l) (.int k u)) := by with_unfolding_all rfl) :
    wpAny (model prog w) A (subscriptTail value slice (.ref l) (.int k u)) Q E s :=
  have hl : s.heap.IsList l vs.toArray := ⟨_, (N _ hm).1, rfl, _, rfl⟩
  tail_any hl.typeIs PySem.F.slot_list_getitem.lookup (wpAny_getItem_list hl h0 hhi (by simpa using hx) h) hs
end
end Mine
namespace Mine
section
variable {prog : Program} {w : World} {A : Around} {E : Value → Shared → Prop} {s : Shared} {env : Env} {h₀ : Heap} {target : PySem.Expr} {body : List Stmt} {Q : Flow → Shared → Prop}
/-- a loop's turns, whatever the target -/
def LoopG (prog : Program) (w : World) (A : Around) (env : Env) (target : PySem.Expr) (body : List Stmt) (Q : Flow → Shared → Prop) (E : Value → Shared → Prop) (it : Value) (s₂ : Shared) : Prop :=
  ∃ (I : Nat → Shared → Prop) (n : Nat), I n s₂ ∧ ∀ n s, I n s → wpAny (model prog w) A (pyNext it) (fun r s₁ => match r with
    | none => Q .next s₁
    | some v => wpAny (model prog w) A (letOwnedTupleGo target it v) (fun _ s₂ => wpAny (model prog w) A (assign target env v) (fun _ s₃ => wpAny (model prog w) A (execs body env) (fun f s₄ => match f with
        | .next | .cont => ∃ m, m < n ∧ I m s₄
        | .brk => Q .next s₄
        | .ret v => Q (.ret v) s₄) E s₃) E s₂) E s₁) E s
theorem For_any {iter : PySem.Expr} {pos : Pos}
    (h : wpAny (model prog w) A (eval iter env) (fun xv s₁ => wpAny (model prog w) A (pyIter xv) (fun it s₂ => LoopG prog w A env target body Q E it s₂) E s₁) E s)
    (hs : ∀ x, foldedSetIterable iter env x = pure x := by intro _; rfl)
    (hE : PassesOwn (model prog w) A env E := by passes_own) :
    wpAny (model prog w) A (exec (.For target iter body [] pos) env) Q E s := by
  refine wpAny_For (wpAny_mono h (fun xv s₁ h₁ => wpAny_mono h₁ (fun it s₂ h₂ => ?_) fun _ _ e => e) fun _ _ e => e) hs
  obtain ⟨I, n, h0, turn⟩ := h₂
  refine codeAny_loop' rfl I (fun n s hI => ?_) n h0
  show wpAny _ _ ((forTurn target it body [] env).onRaise (fun x => do noteFrame x env; theTreesLotGoes x)) _ _ s
  refine wpAny_noted ?_
  simp only [forTurn]
  have tn := wpAny_passesOwn hE (turn n s hI)
  refine wpAny_bind (wpAny_standAt (wpAny_bind (wpAny_onRaise (wpAny_mono tn (fun r s₁ h₁ => ?_) fun _ _ h' => wpAny_standAt h'))))
  cases r with
  | none => exact wpAny_pure (.inr ⟨rfl, codeAny_block (wpAny_execs_nil h₁)⟩)
  | some v =>
    refine wpAny_bind (wpAny_mono (wpAny_passesOwn hE h₁) (fun _ s₂ h₂ => ?_) fun _ _ h' => h')
    refine wpAny_bind (wpAny_mono (wpAny_passesOwn hE h₂) (fun _ s₃ h₃ => wpAny_bind (wpAny_mono (wpAny_passesOwn hE h₃) (fun f s₄ h₄ => ?_) fun _ _ h' => h')) fun _ _ h' => h')
    cases f with
    | next => exact wpAny_pure (.inl ⟨rfl, h₄⟩)
    | cont => exact wpAny_pure (.inl ⟨rfl, h₄⟩)
    | brk => exact wpAny_pure h₄
    | ret v => exact wpAny_pure h₄
end
end Mine
namespace Mine
section
variable {prog : Program} {w : World} {A : Around} {E : Value → Shared → Prop} {s : Shared} {env : Env} {h₀ : Heap} {target : PySem.Expr} {body : List Stmt} {Q : Flow → Shared → Prop}
/-- a target that lets no owned tuple go -/
def Calm (target : PySem.Expr) : Prop := (∀ it v, letOwnedTupleGo target it v = pure ()) ∨ ∃ elts x1 pos, target = .Tuple elts x1 pos
theorem iter_ledG {l : Addr} {vs : List Value} {nn : Nat} {m₀ : Str → Option Value} {led₀ : List (Addr × Obj)} (J : Nat → (Str → Option Value) → List (Addr × Obj) → Prop)
    (hh : A.handled = none) (F : Fr h₀ env.locals s.heap m₀) (N : News h₀ env.locals s.heap led₀) (hl : ∀ i m led, J i m led → (l, listOf vs.toArray nn) ∈ led) (hj : J 0 m₀ led₀) (hgo : Calm target)
    (turn : ∀ i v m₁ led₁ h tk (it : Addr) (io : Obj), vs[i]? = some v → J i m₁ led₁ → (∀ p ∈ led₁, p.1 ≠ it) → Fr h₀ env.locals h m₁ → News h₀ env.locals h ((it, io) :: led₁) →
      wpAny (model prog w) A (assign target env v) (fun _ s₂ => wpAny (model prog w) A (execs body env) (LEnd h₀ env.locals (J (i + 1)) it io { s with heap := h, toks := tk } Q) E s₂) E { s with heap := h, toks := tk })
    (done : ∀ m₁ led₁ h tk, J vs.length m₁ led₁ → Fr h₀ env.locals h m₁ → News h₀ env.locals h led₁ → Q .next { s with heap := h, toks := tk }) :
    wpAny (model prog w) A (pyIter (.ref l)) (fun it s₂ => LoopG prog w A env target body Q E it s₂) E s := by
  have hm0 := hl 0 m₀ led₀ hj
  have hls : s.heap.IsList l vs.toArray := ⟨_, (N _ hm0).1, rfl, _, rfl⟩
  have hlt : l < s.heap.objs.size := Heap.lt_size (N _ hm0).1
  have hne : l ≠ s.heap.objs.size := Nat.ne_of_lt hlt
  refine wpAny_pyIter_list hls ?_
  have W := Walks.list (prog := prog) (w := w) hh s.heap.objs.size l hne vs.toArray
  rw [List.size_toArray] at W
  have hItL : env.locals ≠ s.heap.objs.size := Nat.ne_of_lt F.ns.lt
  have hIt0 : h₀.get? s.heap.objs.size = none := next_is_new F
  refine ⟨fun k s' => ∃ h' tk m' led' i, s' = { s with heap := h', toks := tk } ∧ h'.IsListIter s.heap.objs.size l i ∧ Fr h₀ env.locals h' m' ∧ News h₀ env.locals h' led' ∧ (∀ p ∈ led', p.1 ≠ s.heap.objs.size) ∧ J i m' led' ∧ i ≤ vs.length ∧ k = vs.length + 1 - i, vs.length + 1,
    ⟨_, s.toks, m₀, led₀, 0, rfl, ⟨_, Heap.get?_push_size _ rfl, rfl, rfl⟩, F.push _, (fun p hp => ⟨Heap.get?_push_of_some _ (N p hp).1, (N p hp).2⟩), (fun p hp => Nat.ne_of_lt (Heap.lt_size (N p hp).1)), hj, Nat.zero_le _, rfl⟩, ?_⟩
  rintro k s' ⟨h', tk, m', led', i, rfl, hit, F', N', hoff, hJ, hi, rfl⟩
  have hm := hl i m' led' hJ
  have hls' : h'.IsList l vs.toArray := ⟨_, (N' _ hm).1, rfl, _, rfl⟩
  have next : ∀ h₁ : Heap, (∀ b o, b ∉ [s.heap.objs.size] → h'.get? b = some o → h₁.get? b = some o) → Fr h₀ env.locals h₁ m' ∧ News h₀ env.locals h₁ led' := fun h₁ hk₁ =>
    ⟨⟨F'.ns.at' fun o e => hk₁ _ o (fun q => hItL (List.mem_singleton.mp q)) e, fun b o e => hk₁ b o (fun q => by rw [List.mem_singleton.mp q, hIt0] at e; cases e) (F'.keep b o e), F'.above⟩,
      fun p hp => ⟨hk₁ _ _ (fun q => hoff p hp (List.mem_singleton.mp q)) (N' p hp).1, (N' p hp).2⟩⟩
  by_cases hlt' : i < vs.length
  · refine W.item i _ _ _ hlt' ⟨hit, hls'⟩ fun v h₁ tk₁ hP hst₁ hk₁ => ?_
    obtain ⟨F₁, N₁⟩ := next h₁ hk₁
    obtain ⟨⟨io, hio, hic, hid⟩, _⟩ := hst₁
    have N₂ : News h₀ env.locals h₁ ((s.heap.objs.size, io) :: led') := fun p hp => by
      rcases List.mem_cons.mp hp with rfl | hp
      · exact ⟨hio, fun e => hItL e.symm, hIt0⟩
      · exact N₁ p hp
    have tn := turn i v m' led' h₁ tk₁ s.heap.objs.size io (by simpa using hP) hJ hoff F₁ N₂
    have go : wpAny (model prog w) A (letOwnedTupleGo target (.ref s.heap.objs.size) v) (fun _ s₂ => s₂ = { s with heap := h₁, toks := tk₁ }) E { s with heap := h₁, toks := tk₁ } := by
      rcases hgo with hgo | ⟨elts, x1, pos, rfl⟩
      · exact wpAny_of_eq (hgo _ _) rfl
      · cases v with
        | ref T => exact wpAny_letOwnedTupleGo_listiter ⟨io, hio, hic, hid⟩ rfl
        | _ => exact wpAny_pure rfl
    refine wpAny_mono go (fun _ s₂ e => ?_) fun _ _ e => e
    subst e
    refine wpAny_mono tn (fun _ s₃ h₃ => wpAny_mono h₃ (fun f s₄ h₄ => ?_) fun _ _ e => e) fun _ _ e => e
    have fin : (∃ h' tk m' led', s₄ = { ({ s with heap := h₁, toks := tk₁ } : Shared) with heap := h', toks := tk } ∧ Fr h₀ env.locals h' m' ∧ News h₀ env.locals h' ((s.heap.objs.size, io) :: led') ∧ (∀ p ∈ led', p.1 ≠ s.heap.objs.size) ∧ J (i + 1) m' led') →
        ∃ m, m < vs.length + 1 - i ∧ ∃ h' tk m' led' i, s₄ = { s with heap := h', toks := tk } ∧ h'.IsListIter s.heap.objs.size l i ∧ Fr h₀ env.locals h' m' ∧ News h₀ env.locals h' led' ∧ (∀ p ∈ led', p.1 ≠ s.heap.objs.size) ∧ J i m' led' ∧ i ≤ vs.length ∧ m = vs.length + 1 - i := by
      rintro ⟨h₅, tk₅, m₅, led₅, rfl, F₅, N₅, ho₅, hJ₅⟩
      exact ⟨vs.length + 1 - (i + 1), by omega, h₅, tk₅, m₅, led₅, i + 1, rfl, ⟨io, (N₅ _ (.head _)).1, hic, hid⟩, F₅, fun p hp => N₅ p (.tail _ hp), ho₅, hJ₅, hlt', rfl⟩
    cases f with
    | ret v => exact h₄
    | brk => exact h₄
    | next => exact fin h₄
    | cont => exact fin h₄
  · have hin : i = vs.length := by omega
    subst hin
    refine W.done _ _ _ ⟨hit, hls'⟩ fun h₁ tk₁ hk₁ => ?_
    obtain ⟨F₁, N₁⟩ := next h₁ hk₁
    exact done m' led' h₁ tk₁ hJ F₁ N₁
end
end Mine
namespace Mine
/-- the state between the turns, whatever the target -/
def StG {σ : Type} (Led : σ → List (Addr × Obj)) (ps : σ → List (Str × Value)) (stored : List Str) (m₀ : Str → Option Value) (P : Nat → σ → Prop) (i : Nat) (m : Str → Option Value) (led : List (Addr × Obj)) : Prop :=
  ∃ c : σ, led = Led c ∧ (∀ p ∈ ps c, m p.1 = some p.2) ∧ (∀ z, (∀ p ∈ ps c, z ≠ p.1) → stored.contains z = false → m z = m₀ z) ∧ P i c
theorem kst_g {ps : List (Str × Value)} {stored : List Str} {m₀ m₁ : Str → Option Value} (h1 : ∀ p ∈ ps, m₁ p.1 = some p.2) (h2 : ∀ z, (∀ p ∈ ps, z ≠ p.1) → stored.contains z = false → m₁ z = m₀ z) :
    kstB (fun z => if stored.contains z then m₁ z else m₀ z) ps = m₁ := by
  funext y
  refine kstB_eq h1 fun hn => ?_
  show (if stored.contains y = true then m₁ y else m₀ y) = m₁ y
  cases h3 : stored.contains y with
  | true => simp
  | false => simp only [Bool.false_eq_true, if_false]; exact (h2 y hn h3).symm
/-- names said of a frame -/
theorem fr_say {h₀ h : Heap} {L : Addr} {m : Str → Option Value} (ps : List (Str × Value)) (F : Fr h₀ L h m) (h1 : ∀ p ∈ ps, m p.1 = some p.2) : Fr h₀ L h (kstB m ps) := by
  have e : kstB m ps = m := by
    funext y
    exact kstB_eq h1 fun _ => rfl
  rw [e]; exact F
section
variable {prog : Program} {w : World} {A : Around} {E : Value → Shared → Prop} {s : Shared} {env : Env} {h₀ : Heap} {target : PySem.Expr} {body : List Stmt} {Q : Flow → Shared → Prop}
theorem st_ledG {σ : Type} {l : Addr} {vs : List Value} {nn : Nat} {m₀ : Str → Option Value} (Led : σ → List (Addr × Obj)) (ps : σ → List (Str × Value)) (stored : List Str) (P : Nat → σ → Prop) (c₀ : σ)
    (hh : A.handled = none) (F : Fr h₀ env.locals s.heap m₀) (N : News h₀ env.locals s.heap (Led c₀)) (hl : ∀ c, (l, listOf vs.toArray nn) ∈ Led c) (hk : ∀ p ∈ ps c₀, m₀ p.1 = some p.2) (hp : P 0 c₀) (hgo : Calm target)
    (turn : ∀ i v c (u : Str → Option Value) h tk (it : Addr) (io : Obj), vs[i]? = some v → P i c → (∀ p ∈ Led c, p.1 ≠ it) →
      Fr h₀ env.locals h (kstB (fun z => if stored.contains z then u z else m₀ z) (ps c)) → News h₀ env.locals h ((it, io) :: Led c) →
      wpAny (model prog w) A (assign target env v) (fun _ s₂ => wpAny (model prog w) A (execs body env) (LEnd h₀ env.locals (StG Led ps stored m₀ P (i + 1)) it io { s with heap := h, toks := tk } Q) E s₂) E { s with heap := h, toks := tk })
    (done : ∀ c (u : Str → Option Value) h tk, P vs.length c → Fr h₀ env.locals h (kstB (fun z => if stored.contains z then u z else m₀ z) (ps c)) → News h₀ env.locals h (Led c) → Q .next { s with heap := h, toks := tk }) :
    wpAny (model prog w) A (pyIter (.ref l)) (fun it s₂ => LoopG prog w A env target body Q E it s₂) E s := by
  refine iter_ledG (vs := vs) (nn := nn) (StG Led ps stored m₀ P) hh F N ?_ ⟨c₀, rfl, hk, fun _ _ _ => rfl, hp⟩ hgo ?_ ?_
  · rintro i m led ⟨c, rfl, _⟩
    exact hl c
  · rintro i v m₁ led₁ h tk it io hv ⟨c, rfl, h1, h2, hP⟩ ho F₁ N₁
    exact turn i v c m₁ h tk it io hv hP ho (by rw [kst_g h1 h2]; exact F₁) N₁
  · rintro m₁ led₁ h tk ⟨c, rfl, h1, h2, hP⟩ F₁ N₁
    exact done c m₁ h tk hP (by rw [kst_g h1 h2]; exact F₁) N₁
theorem st_endG {σ : Type} {Led : σ → List (Addr × Obj)} {ps : σ → List (Str × Value)} {stored : List Str} {m₀ : Str → Option Value} {P : Nat → σ → Prop} {i : Nat} {L : Addr} {m' : Str → Option Value} {all : List (Addr × Obj)} {it : Addr} {io : Obj} {s₁ : Shared} {h' : Heap} {tk : Nat} (c : σ)
    (F : Fr h₀ L h' m') (N : News h₀ L h' all) (hs : ∀ p ∈ (it, io) :: Led c, p ∈ all) (ha : ∀ p ∈ Led c, p.1 ≠ it) (hk : ∀ p ∈ ps c, m' p.1 = some p.2)
    (hr : ∀ z, (∀ p ∈ ps c, z ≠ p.1) → stored.contains z = false → m' z = m₀ z) (hp : P i c) : LEnd h₀ L (StG Led ps stored m₀ P i) it io s₁ Q .next { s₁ with heap := h', toks := tk } :=
  LEnd.intro (Led c) F N hs ha ⟨c, rfl, hk, hr, hp⟩
end
end Mine
namespace Mine
section
open PySem.Calls
variable {prog : Program} {w : World} {A : Around} {E : Value → Shared → Prop} {s : Shared} {h₀ : Heap} {L D b : Addr} {m : Str → Option Value} {news news' : List (Addr × Obj)} {its its2 : Array Value} {n n2 : Nat} {l : List Value}
theorem iadd_fill : fillsInplaceSlot (.type "list") "add" true = pure false := by
  unfold fillsInplaceSlot
  show (typeLookup (.type "list") (dunderI "add") >>= fun fi => pure (fi.isSome && !isSeqSlot fi)) = pure false
  rw [PySem.F.slot_list_iadd.lookup]
  show pure ((some (Value.builtin "list.__iadd__")).isSome && !isSeqSlot (some (Value.builtin "list.__iadd__"))) = (pure false : Sem Bool)
  have : isSeqSlot (some (Value.builtin "list.__iadd__")) = true := by decide +kernel
  rw [this]; rfl
theorem iadd_seq : seqSlot? (.type "list") (dunderI "add") = pure (some (.builtin "list.__iadd__")) := by
  unfold seqSlot?
  rw [PySem.F.slot_list_iadd.lookup]
  show (if (!isSeqSlot (some (Value.builtin "list.__iadd__"))) = true then pure none else pure (some (Value.builtin "list.__iadd__"))) = (pure (some (.builtin "list.__iadd__")) : Sem (Option Value))
  have : isSeqSlot (some (Value.builtin "list.__iadd__")) = true := by decide +kernel
  rw [this]; rfl
theorem list_noadd : fillsNumberSlot (.type "list") "add" = pure false := by
  first | exact PySem.F.fills_list_add | exact noFill_list_add | (rw [fillsNumberSlot]; kernel_rfl)
theorem iadd_K {Q : Value → Shared → Prop} (F : Fr h₀ L s.heap m) (N : News h₀ L s.heap news) (hb : (b, listOf its2 n2) ∈ news) (U : Upd D (listOf its n) (listOf l.toArray (n + 1)) news news') (e : its.toList ++ its2.toList = l) (hne : its2.toList.length ≠ 0)
    (hz2 : its.size + its2.size ≤ 1000)
    (h : ∀ h', Fr h₀ L h' m → News h₀ L h' news' → Q (.ref D) { s with heap := h' }) : wpAny (model prog w) A (inplaceOp .Add (.ref D) (.ref b)) Q E s := by
  obtain ⟨pre, post, rfl, rfl, a, c⟩ := U.split
  have z := N (D, listOf its n) (List.mem_append.mpr (.inr (.head _)))
  have tD : s.TypeIs (.ref D) "list" := ⟨_, z.1, rfl⟩
  have tb : s.TypeIs (.ref b) "list" := ⟨_, (N _ hb).1, rfl⟩
  unfold inplaceOp
  refine wpAny_holding ?_
  refine wpAny_bind (wpAny_typeOf tD (wpAny_bind (wpAny_of_eq iadd_fill ?_)))
  show wpAny _ A (if false = true then _ else _) Q E s
  rw [if_neg Bool.false_ne_true]
  refine wpAny_bind (wpAny_binaryOp1_none (nm := "add") tD tb list_noadd ?_)
  refine wpAny_bind (wpAny_of_eq iadd_seq ?_)
  refine wpAny_bind (wpAny_rule ?_)
  have hsl : its.size ≤ sizeLine := by rw [sizeLine_eq]; omega
  refine call_meets PySem.F.slot_list_iadd tD PySem.F.entry_list_iadd (PySem.F.args_list_iadd_2 _ _) (PySem.AutoSeq1.list___iadd___list_list_0 D its n b its2 n2 ?_ hsl (by rw [sizeLine_eq]; omega)) ⟨z.1, (N _ hb).1, h _ (F.change (Heap.SameBut.update ..) z.2.1 z.2.2) (kl_turn _ N a c ?_ ?_)⟩
  · have : Builtin.List.listTooLong (its.size + its2.size) = false := by
      unfold Builtin.List.listTooLong
      exact decide_eq_false (by rw [sizeLine_eq]; omega)
    rw [this]; simp
  · subst e
    apply Array.toList_inj.mp
    simp
  · subst e
    simp at hne ⊢
    exact hne
end
end Mine
namespace Mine
inductive All2 {α β : Type} (G : α → β → Prop) : List α → List β → Prop
  | nil : All2 G [] []
  | cons {a b l m} : G a b → All2 G l m → All2 G (a :: l) (b :: m)
theorem All2.snoc {α β : Type} {G : α → β → Prop} : ∀ {l : List α} {m : List β} {a : α} {b : β}, All2 G l m → G a b → All2 G (l ++ [a]) (m ++ [b])
  | _, _, _, _, .nil, h => .cons h .nil
  | _, _, _, _, .cons h r, g => .cons h (All2.snoc r g)
section
variable {prog : Program} {w : World} {A : Around} {h₀ : Heap} {L : Addr} {m : Str → Option Value} {env : Env} {elt : PySem.Expr} {x : Str} {scope : Scope} {cl : List (Str × Addr)} {s : Shared} {S : List (Addr × Obj) → Prop} {Fin : List Value → List (Addr × Obj) → Prop} {news : List (Addr × Obj)}
/-- a block's turns, each telling its item's worth, no object kept -/
theorem rest_map {vs : List Value} (G : Value → Value → Prop) (hS : S news)
    (turn : ∀ v I oI C oC D m₂ ys h tk (E' : Value → Shared → Prop), v ∈ vs → LCg.NsObj oC m₂ → m₂ x = some v → Fr h₀ L h m → News h₀ L h ((I, oI) :: (C, oC) :: (D, LCg.lst ys) :: news) → LCg.Off3 I C D news → ((@Ne Nat I C) ∧ (@Ne Nat I D) ∧ (@Ne Nat C D)) →
      wpAny (model prog w) A (eval elt (compEnvC scope cl C env)) (fun y s₂ => G v y ∧ ∃ h' tk', s₂ = { s with heap := h', toks := tk' } ∧ Fr h₀ L h' m ∧ News h₀ L h' ((I, oI) :: (C, oC) :: (D, LCg.lst ys) :: news)) E' { s with heap := h, toks := tk })
    (fin : ∀ ys, All2 G vs ys → Fin ys news) : LCg.CompRest prog w A h₀ L m env elt x scope cl s S (fun i v => vs.toArray[i]? = some v) Fin vs.toArray.size 0 [] news := by
  have key : ∀ (j i : Nat) (ys : List Value), i + j = vs.length → All2 G (vs.take i) ys → LCg.CompRest prog w A h₀ L m env elt x scope cl s S (fun i v => vs.toArray[i]? = some v) Fin j i ys news := by
    intro j
    induction j with
    | zero =>
      intro i ys hi hy
      have e : i = vs.length := by omega
      subst e
      rw [List.take_length] at hy
      exact LCg.CompRest.zero (fin ys hy)
    | succ j ih =>
      intro i ys hi hy
      refine LCg.CompRest.succ ?_
      intro v I oI C oC D m₂ h tk E' hv hC hx F N off ne
      have hv' : vs[i]? = some v := by simpa using hv
      refine wpAny_mono (turn v I oI C oC D m₂ ys h tk E' (List.mem_of_getElem? hv') hC hx F N off ne) (fun y s₂ hq => ?_) fun _ _ e => e
      obtain ⟨hg, h', tk', e, F', N'⟩ := hq
      refine ⟨h', tk', news, e, F', N', off, hS, ?_⟩
      refine ih (i + 1) _ (by omega) ?_
      rw [List.take_add_one, hv']
      exact All2.snoc hy hg
  rw [List.size_toArray]
  exact key vs.length 0 [] (by omega) (by rw [List.take_zero]; exact .nil)
end
end Mine
namespace Mine
theorem eqv_strs : ∀ xs ys : List Str, PyData.eqvAll (xs.map PyData.str) (ys.map PyData.str) = decide (xs = ys)
  | [], [] => by simp [PyData.eqvAll]
  | [], _ :: _ => by simp [PyData.eqvAll]
  | _ :: _, [] => by simp [PyData.eqvAll]
  | a :: r, b :: t => by
    simp only [List.map_cons, PyData.eqvAll, PyData.eqv, eqv_strs r t]
    by_cases h : a = b <;> by_cases h' : r = t <;> simp [h, h']
theorem lay_strs : ∀ xs : List Str, (∀ x ∈ xs, PyData.strOk x = true) → PyData.canLayAll0 (xs.map PyData.str) = true
  | [], _ => rfl
  | x :: r, h => by simp [PyData.canLayAll0, PyData.canLay0, h x (.head _), lay_strs r fun y hy => h y (.tail _ hy)]
theorem dep_strs : ∀ xs : List Str, PyData.depthAll (xs.map PyData.str) = 0
  | [] => rfl
  | _ :: r => by simp [PyData.depthAll, PyData.depth, dep_strs r]
theorem shaped_strs (xs : List Str) (h : ∀ x ∈ xs, PyData.strOk x = true) : SeqAt.shaped (.list (xs.map PyData.str)) = true := by
  simp [SeqAt.shaped, PyData.canLay0, PyData.depth, lay_strs xs h, dep_strs]
theorem reads_strs {h : Heap} : ∀ l : List (Str × Tok), ReadsAll h (strValues l) ((l.map (·.1)).map PyData.str) []
  | [] => .nil
  | (x, t) :: r => ReadsAll.cons (as := []) (Reads.str x t) (reads_strs r)
section
variable {prog : Program} {w : World} {A : Around} {E : Value → Shared → Prop} {s : Shared} {h₀ : Heap} {L a b : Addr} {news : List (Addr × Obj)}
theorem reads_strL {h : Heap} {n : Nat} {l : List (Str × Tok)} (N : News h₀ L h news) (ha : (a, listOf (strValues l).toArray n) ∈ news) : Reads h (.ref a) (.list ((l.map (·.1)).map PyData.str)) [a] :=
  reads_list_at (N _ ha).1 rfl rfl (reads_strs l)
theorem ne_strs {Q : Value → Shared → Prop} {lx ly : List (Str × Tok)} {n n' : Nat} (N : News h₀ L s.heap news) (ha : (a, listOf (strValues lx).toArray n) ∈ news) (hb : (b, listOf (strValues ly).toArray n') ∈ news)
    (ox : ∀ x ∈ lx.map (·.1), PyData.strOk x = true) (oy : ∀ x ∈ ly.map (·.1), PyData.strOk x = true) (hu : A.units + 64 < cLine) (h : Q (.bool (!decide (lx.map (·.1) = ly.map (·.1)))) s) :
    wpAny (model prog w) A (compareOp .NotEq (.ref a) (.ref b)) Q E s := by
  refine ne_dataH (reads_strL N ha) (reads_strL N hb) (shaped_strs _ ox) (shaped_strs _ oy) hu ?_
  rw [PyData.eqv, eqv_strs]
  exact h
theorem eq_strs {Q : Value → Shared → Prop} {lx ly : List (Str × Tok)} {n n' : Nat} (N : News h₀ L s.heap news) (ha : (a, listOf (strValues lx).toArray n) ∈ news) (hb : (b, listOf (strValues ly).toArray n') ∈ news)
    (ox : ∀ x ∈ lx.map (·.1), PyData.strOk x = true) (oy : ∀ x ∈ ly.map (·.1), PyData.strOk x = true) (hu : A.units + 64 < cLine) (h : Q (.bool (decide (lx.map (·.1) = ly.map (·.1)))) s) :
    wpAny (model prog w) A (compareOp .Eq (.ref a) (.ref b)) Q E s := by
  refine eq_dataH (reads_strL N ha) (reads_strL N hb) (shaped_strs _ ox) (shaped_strs _ oy) hu ?_
  rw [PyData.eqv, eqv_strs]
  exact h
end
end Mine
end
section
namespace Mine
local macro_rules | `(tactic| walk_at "compareOp Eq ref ref") => `(tactic| (k_here; (with_reducible show wpAny _ _ (compareOp CmpOp.Eq (Value.ref _) (Value.ref _)) _ _ _); k_dflt (refine eq_dataH (by ke_read) (by ke_read) (by simp [SeqAt.shaped, PyData.canLay0, PyData.canLayAll0, PyData.depth, PyData.depthAll, *]; done) (by simp [SeqAt.shaped, PyData.canLay0, PyData.canLayAll0, PyData.depth, PyData.depthAll, *]; done) (by ktr_units) ?_); ke_norm))
def subF (n1 x n2 y : Str) : Bool := (n1 == n2 && x == y) || (!(n1 != n2) && Txt.startswith y (if (Txt.slice x (some (-1)) none != Str.ofString "/") = true then x ++ Str.ofString "/" else x))
theorem sub {w : World} {mean mg mb} {news : List (Addr × Obj)} {sf b t : Addr} {n1 n2 x y : Str} {u1 u2 u3 u4 : Tok} : Cl 2 w mean mg mb 121 ((t, tupO [.str n2 u3, .str y u4]) :: (b, tupO [.str n1 u1, .str x u2]) :: news)
    (x.length ≤ 1000 ∧ y.length ≤ 1000 ∧ PyData.strOk n1 = true ∧ PyData.strOk n2 = true ∧ PyData.strOk x = true ∧ PyData.strOk y = true) [.ref sf, .ref b, .ref t] (fun _ => .bool (subF n1 x n2 y)) := by
  unfold Cl; intros; rename_i hpre _ _ hret
  obtain ⟨hp1, hp2, hp3, hp4, hp5, hp6⟩ := hpre
  w_top off
  refine wpAny_call ?_
  cell_enter
  k_steps
  all_goals (refine' cb_retB hret ?e1 ?e2 ?e3; (case e2 => k_asm); (case e3 => first | k_asm | (refine' cb_drop ?cbN ?cbS; (case cbN => assumption); (case cbS => kcj_all))); (case e1 => (clear hret; first | (simp_all [subF]; done) | (fail "left"))))
end Mine
end
section
namespace Mine
def labF (n : Int) : Str := if n = 0 then Str.ofString "a" else Str.ofString "Ba"
def textF (ns : List Int) : Str := Txt.join (Str.ofString ".") (ns.map labF)
theorem carried_strs : ∀ {ys : List Value} {ts : List Str}, CarriedAll ys (ts.map PyData.str) → ∃ l : List (Str × Tok), ys = strValues l ∧ l.map (·.1) = ts
  | [], [], _ => ⟨[], rfl, rfl⟩
  | _, t :: ts, h => by
    cases h with
    | cons h1 h2 =>
      obtain ⟨l, e1, e2⟩ := carried_strs h2
      cases h1 with
      | str _ u => exact ⟨(t, u) :: l, by subst e1; rfl, by subst e2; rfl⟩
theorem lab_len (n : Int) : (labF n).length ≤ 2 := by unfold labF; split <;> decide
theorem lab_join (ns : List Int) (h : ns.length ≤ 10) : JoinOk (Str.ofString ".") (ns.map labF) = true := by
  refine joinOk_of_weight ?_ (by decide)
  have : ∀ ns : List Int, ((ns.map labF).map (·.length)).sum ≤ 2 * ns.length := by
    intro ns
    induction ns with
    | nil => simp
    | cons a r ih => simp only [List.map_cons, List.sum_cons, List.length_cons]; have := lab_len a; omega
  have := this ns
  simp only [List.length_map]
  omega
local macro_rules | `(tactic| walk_at "eval ListComp") => `(tactic| (k_here; k_dflt (refine LCg.ListComp_U (F₀ := by k_asm) (by rfl) (by decide) (by rfl) (by decide) (by rfl) ?_)))
local macro_rules | `(tactic| walk_at "call builtin:str.join") => `(tactic| (k_here; refine' SC.join ?a ?b ?c ?_; (case a => exact News.isList (by k_asm) (.head _)); (case b => assumption); (case c => assumption); intro t9 k9))
theorem text {w : World} {mean mg mb} {news : List (Addr × Obj)} {l : Addr} {vs : List Value} {ns : List Int} {nn : Nat} (hl : (l, listOf vs.toArray nn) ∈ news) (hi : IntsAre vs ns) (h01 : ∀ n ∈ ns, n = 0 ∨ n = 1) (hlen : ns.length ≤ 10) : Cl 1 w mean mg mb 138 news True [.ref l] (fun t => .str (textF ns) t) := by
  unfold Cl; intros; rename_i hpre _ _ hret
  w_top off
  refine wpAny_call ?_
  cell_enter
  k_steps
  have hsz : vs.toArray.size ≤ sizeLine := by
    rw [List.size_toArray, IntsAre.length hi, sizeLine_eq]; omega
  k_dflt (refine LCg.CompSrc.ledger (by rfl) (by k_asm) (by k_asm) hl hsz ?_)
  intro g'
  refine kct_list labF hi ?turn ?fin
  case fin =>
    intro ys hc _ D h' tk' F' N' o1
    obtain ⟨lt, e1, e2⟩ := carried_strs (ys := ys) (ts := ns.map labF) (by rw [List.map_map]; exact hc)
    subst e1
    have hj := lab_join ns hlen
    k_steps
    refine' cb_retS hret ?e1 ?e2 ?e3
    case e2 => k_asm
    case e3 => exact cb_drop (by assumption) (fun p hp => .tail _ hp)
    case e1 => rfl
  case turn =>
    intro k t I oI C oC D m₂ ys h tk E' hk hC hx F N off ne mk
    rcases h01 k hk with e | e
    all_goals subst e
    all_goals k_steps
    all_goals (refine' LCg.CompEnd.intro (by assumption) (by assumption) news ?sub off (.inr ⟨_, hl, rfl, _, rfl⟩) ?_; (case sub => exact fun p hp => .tail _ hp); exact kct_el (by decide) rfl rfl)
end Mine
end
section
local macro_rules | `(tactic| walk_at "no such key") => `(tactic| fail)
namespace Mine
def worthF (w0 w1 : Int) (ns : List Int) : Int := ns.foldl (fun p n => p * (if n = 0 then w0 else w1)) 1
abbrev BB : Nat := 2097152
theorem worth_bits {w0 w1 : Int} (hb0 : Builtin.Int.intBits w0 ≤ BB) (hb1 : Builtin.Int.intBits w1 ≤ BB) (ns : List Int) : Builtin.Int.intBits (worthF w0 w1 ns) ≤ BB * ns.length + 1 := by
  have key : ∀ (ns : List Int) (p : Int) (m : Nat), Builtin.Int.intBits p ≤ m → Builtin.Int.intBits (ns.foldl (fun p n => p * (if n = 0 then w0 else w1)) p) ≤ BB * ns.length + m := by
    intro ns
    induction ns with
    | nil => intro p m h; simpa using h
    | cons a r ih =>
      intro p m h
      have hx : Builtin.Int.intBits (if a = 0 then w0 else w1) ≤ BB := by split <;> assumption
      have := ih (p * (if a = 0 then w0 else w1)) (m + BB) (bits_mul h hx)
      simp only [List.foldl_cons, List.length_cons]
      rw [Nat.mul_add, Nat.mul_one]
      omega
  exact key ns 1 1 (by decide)
local macro_rules | `(tactic| walk_at "exec For Name Name cons nil") => `(tactic| (k_here; (rename Fr _ _ _ _ => lF'); (with_unfolding_all refine' For_invVF lF' ?k1 ?k2 ?_; (case k1 => exact rfl); (case k2 => exact rfl); k_whole)))
local macro_rules | `(tactic| kst_same) => `(tactic| (intro z h1 h2 h3; (try simp only [List.forall_mem_cons, List.not_mem_nil, false_implies, implies_true, and_true, ne_eq] at h2); (try simp only [List.contains_cons, List.contains_nil, Bool.or_false, Bool.or_eq_false_iff, beq_eq_false_iff_ne, ne_eq] at h3); simp [kstB, h1, h2, h3]; done))
local macro_rules | `(tactic| walk_at "subscriptTail") => `(tactic| (k_here; (with_reducible show wpAny _ _ (subscriptTail _ _ (Value.ref _) (Value.int _ _)) _ _ _); (with_unfolding_all refine' item_led ?k0 ?k1 ?k2 ?k3 ?k4 ?_ ?k6; (case k0 => k_asm); (case k1 => first | kst_mem | k_mem); (case k2 => decide); (case k3 => decide); (case k4 => rfl); (case k6 => with_unfolding_all rfl); k_whole)))
theorem worth {w : World} {mean mg mb} {news : List (Addr × Obj)} {l lw : Addr} {vs : List Value} {ns : List Int} {w0 w1 : Int} {t0 t1 : Tok} {nn mm : Nat} (hl : (l, listOf vs.toArray nn) ∈ news) (hi : IntsAre vs ns) (h01 : ∀ n ∈ ns, n = 0 ∨ n = 1) (hlen : ns.length ≤ 10)
    (hw : (lw, listOf [Value.int w0 t0, Value.int w1 t1].toArray mm) ∈ news) (hb0 : Builtin.Int.intBits w0 ≤ BB) (hb1 : Builtin.Int.intBits w1 ≤ BB) : Cl 1 w mean mg mb 152 news True [.ref l, .ref lw] (fun t => .int (worthF w0 w1 ns) t) := by
  unfold Cl; intros; rename_i hpre _ _ hret
  w_top off
  refine wpAny_call ?_
  cell_enter
  k_steps
  rename Fr _ _ _ _ => F1
  rename News _ _ _ _ => N1
  refine' st_led (σ := Int × Tok) (fun _ => news) (fun c => [(Str.ofString "product", .int c.1 c.2)]) [] (fun i c => c.1 = worthF w0 w1 (ns.take i)) (1, _) rfl F1 N1 (fun _ => hl) ?hk ?hp ?turn ?done
  case hk => kst_all
  case hp => rfl
  case turn =>
    intro i v c u h tk it io hv hP ho F N
    obtain ⟨n, t, rfl, hn⟩ := IntsAre.at hi i v hv
    obtain ⟨p, tp⟩ := c
    dsimp only at hP
    have hbp : Builtin.Int.intBits p ≤ BB * 10 + 1 := by
      rw [hP]
      refine Nat.le_trans (worth_bits hb0 hb1 _) ?_
      have : (ns.take i).length ≤ 10 := by rw [List.length_take]; omega
      have := Nat.mul_le_mul_left BB this
      omega
    have hf0 : IntMulOk p w0 := mulOk_of_bits hbp hb0 (by decide)
    have hf1 : IntMulOk p w1 := mulOk_of_bits hbp hb1 (by decide)
    have hstep : worthF w0 w1 (ns.take (i + 1)) = p * (if n = 0 then w0 else w1) := by
      unfold worthF at hP ⊢
      rw [List.take_add_one, hn, List.foldl_append, ← hP]
      rfl
    rcases h01 n (List.mem_of_getElem? hn) with e | e
    all_goals subst e
    all_goals k_steps
    · refine' st_end (p * w0, _) (by assumption) (by assumption) (fun p hp => hp) ho ?hk ?hr ?hp
      case hk => kst_all
      case hr => kst_same
      case hp => exact hstep.symm
    · refine' st_end (p * w1, _) (by assumption) (by assumption) (fun p hp => hp) ho ?hk ?hr ?hp
      case hk => kst_all
      case hr => kst_same
      case hp => exact hstep.symm
  case done =>
    intro c u h tk hP F N
    k_steps
    refine' cb_retI hret ?e1 ?e2 ?e3
    case e2 => k_asm
    case e3 => k_asm
    case e1 => rw [hP, List.take_of_length_le (Nat.le_of_eq (IntsAre.length hi).symm)]
end Mine
end
section
namespace Mine
/-- a list of ints that the call has made -/
structure WI where
  a : Addr
  vs : List Value
  ns : List Int
  n : Nat
abbrev WI.ent (x : WI) : Addr × Obj := (x.a, listOf x.vs.toArray x.n)
abbrev refsOf (l : List WI) : List Value := l.map fun x => .ref x.a
abbrev entsOf (l : List WI) : List (Addr × Obj) := l.map WI.ent
abbrev datsOf (l : List WI) : List PyData := l.map fun x => .list (x.ns.map .int)
theorem reads_ints {h : Heap} : ∀ {vs : List Value} {ns : List Int}, IntsAre vs ns → ReadsAll h vs (ns.map PyData.int) []
  | _, _, .nil => .nil
  | _, _, .cons n t r => ReadsAll.cons (as := []) (Reads.int n t) (reads_ints r)
theorem reads_intL {h : Heap} {a : Addr} {vs : List Value} {ns : List Int} {n : Nat} (e : h.get? a = some (listOf vs.toArray n)) (g : IntsAre vs ns) : Reads h (.ref a) (.list (ns.map PyData.int)) [a] :=
  reads_list_at e rfl rfl (reads_ints g)
theorem reads_wl {h : Heap} : ∀ {l : List WI}, (∀ x ∈ l, h.get? x.a = some x.ent.2) → (∀ x ∈ l, IntsAre x.vs x.ns) → ∃ as, ReadsAll h (refsOf l) (datsOf l) as
  | [], _, _ => ⟨[], .nil⟩
  | x :: r, e, g => by
    obtain ⟨as, h1⟩ := reads_wl (l := r) (fun y hy => e y (.tail _ hy)) (fun y hy => g y (.tail _ hy))
    exact ⟨_, .cons (reads_intL (e x (.head _)) (g x (.head _))) h1⟩
theorem eqv_ints : ∀ xs ys : List Int, PyData.eqvAll (xs.map PyData.int) (ys.map PyData.int) = decide (xs = ys)
  | [], [] => by simp [PyData.eqvAll]
  | [], _ :: _ => by simp [PyData.eqvAll]
  | _ :: _, [] => by simp [PyData.eqvAll]
  | a :: r, b :: t => by
    simp only [List.map_cons, PyData.eqvAll, PyData.eqv, eqv_ints r t]
    by_cases h : a = b <;> by_cases h' : r = t <;> simp [h, h']
theorem lay_ints : ∀ xs : List Int, PyData.canLayAll0 (xs.map PyData.int) = true
  | [] => rfl
  | x :: r => by simp [PyData.canLayAll0, PyData.canLay0, lay_ints r]
theorem dep_ints : ∀ xs : List Int, PyData.depthAll (xs.map PyData.int) = 0
  | [] => rfl
  | _ :: r => by simp [PyData.depthAll, PyData.depth, dep_ints r]
theorem lay_dats : ∀ l : List WI, PyData.canLayAll0 (datsOf l) = true
  | [] => rfl
  | x :: r => by
    have := lay_dats r
    simp only [List.map_cons, PyData.canLayAll0, PyData.canLay0, lay_ints x.ns, Bool.true_and]
    exact this
theorem any_dats (l : List WI) (ns : List Int) : (datsOf l).any (fun y => PyData.eqv y (.list (ns.map PyData.int))) = decide (ns ∈ l.map (·.ns)) := by
  induction l with
  | nil => simp
  | cons x r ih =>
    simp only [List.map_cons, List.any_cons, PyData.eqv, eqv_ints, List.mem_cons]
    rw [ih]
    by_cases h : x.ns = ns
    · simp [h]
    · have h' : ns ≠ x.ns := fun e => h e.symm
      simp [h, h']
section
variable {prog : Program} {w : World} {A : Around} {E : Value → Shared → Prop} {s : Shared} {h₀ : Heap} {L a : Addr} {news : List (Addr × Obj)} {Q : Value → Shared → Prop}
theorem notIn_wl {b : Addr} {l : List WI} {n : Nat} {vs : List Value} {ns : List Int} {nn : Nat} (N : News h₀ L s.heap news) (ha : (a, listOf (refsOf l).toArray n) ∈ news) (hl : ∀ x ∈ l, x.ent ∈ news) (g : ∀ x ∈ l, IntsAre x.vs x.ns)
    (hb : (b, listOf vs.toArray nn) ∈ news) (gb : IntsAre vs ns) (hu : A.units + 64 < cLine) (h : Q (.bool (!decide (ns ∈ l.map (·.ns)))) s) : wpAny (model prog w) A (compareOp .NotIn (.ref b) (.ref a)) Q E s := by
  obtain ⟨as, r⟩ := reads_wl (h := s.heap) (l := l) (fun x hx => (N _ (hl x hx)).1) g
  refine PySem.SeqAt.notIn_list_reads (reads_list_at (N _ ha).1 rfl rfl r) (reads_intL (N _ hb).1 gb) (lay_dats l) (by simp [PyData.canLay0, lay_ints]) ?_ (by rw [any_dats]; exact h)
  have : (PyData.list (ns.map PyData.int)).depth ≤ 1 := by simp [PyData.depth, dep_ints]
  omega
theorem ne_ints {b : Addr} {vs us : List Value} {ns ms : List Int} {n n' : Nat} (N : News h₀ L s.heap news) (ha : (a, listOf vs.toArray n) ∈ news) (hb : (b, listOf us.toArray n') ∈ news) (ga : IntsAre vs ns) (gb : IntsAre us ms)
    (hu : A.units + 64 < cLine) (h : Q (.bool (!decide (ns = ms))) s) : wpAny (model prog w) A (compareOp .NotEq (.ref a) (.ref b)) Q E s := by
  refine ne_dataH (reads_intL (N _ ha).1 ga) (reads_intL (N _ hb).1 gb) ?_ ?_ hu ?_
  · simp [SeqAt.shaped, PyData.canLay0, PyData.depth, lay_ints, dep_ints]
  · simp [SeqAt.shaped, PyData.canLay0, PyData.depth, lay_ints, dep_ints]
  · rw [PyData.eqv, eqv_ints]; exact h
end
section
variable {prog : Program} {w : World} {A : Around} {h₀ : Heap} {L : Addr} {m : Str → Option Value} {env : Env} {elt : PySem.Expr} {x : Str} {scope : Scope} {cl : List (Str × Addr)} {s : Shared} {S : List (Addr × Obj) → Prop} {Fin : List Value → List (Addr × Obj) → Prop} {news : List (Addr × Obj)} {P : Nat → Value → Prop}
/-- a block's turns by what holds between them -/
theorem rest_gen {n : Nat} (J : Nat → List Value → List (Addr × Obj) → Prop) (h0 : J 0 [] news)
    (turn : ∀ i v ys nw I oI C oC D m₂ h tk (E' : Value → Shared → Prop), i < n → P i v → J i ys nw → LCg.NsObj oC m₂ → m₂ x = some v → Fr h₀ L h m → News h₀ L h ((I, oI) :: (C, oC) :: (D, LCg.lst ys) :: nw) → LCg.Off3 I C D nw → ((@Ne Nat I C) ∧ (@Ne Nat I D) ∧ (@Ne Nat C D)) →
      wpAny (model prog w) A (eval elt (compEnvC scope cl C env)) (LCg.CompEnd h₀ L m { s with heap := h, toks := tk } I oI C oC D (LCg.lst ys) S (fun y news' => J (i + 1) (ys ++ [y]) news')) E' { s with heap := h, toks := tk })
    (fin : ∀ ys nw, J n ys nw → Fin ys nw) : LCg.CompRest prog w A h₀ L m env elt x scope cl s S P Fin n 0 [] news := by
  have key : ∀ (j i : Nat) (ys : List Value) (nw : List (Addr × Obj)), i + j = n → J i ys nw → LCg.CompRest prog w A h₀ L m env elt x scope cl s S P Fin j i ys nw := by
    intro j
    induction j with
    | zero =>
      intro i ys nw hi hy
      have e : i = n := by omega
      subst e
      exact LCg.CompRest.zero (fin ys nw hy)
    | succ j ih =>
      intro i ys nw hi hy
      refine LCg.CompRest.succ ?_
      intro v I oI C oC D m₂ h tk E' hv hC hx F N off ne
      refine wpAny_mono (turn i v ys nw I oI C oC D m₂ h tk E' (by omega) hv hy hC hx F N off ne) (fun y s₂ hq => ?_) fun _ _ e => e
      obtain ⟨h', tk', nw', e, F', N', off', hS, hj⟩ := hq
      exact ⟨h', tk', nw', e, F', N', off', hS, ih (i + 1) _ _ (by omega) hj⟩
  exact key n 0 [] news (by omega) h0
end
theorem IntsAre.snoc {vs : List Value} {ns : List Int} (h : IntsAre vs ns) (n : Int) (t : Tok) : IntsAre (vs ++ [.int n t]) (ns ++ [n]) := by
  induction h with
  | nil => exact .cons n t .nil
  | cons a u _ ih => exact .cons a u ih
def bitsOf (r : Nat) : List Int := (List.range (r % 3 + 1)).map fun i => (((r / 3) >>> i % 2 : Nat) : Int)
def wordOf (a : Int) : List Int := bitsOf (a.fmod 24).toNat
def wordsOf (a b : List Int) : List (List Int) := if b = a then [a] else [a, b]
end Mine
end
section
namespace Mine
def loS (x : Str) : Str := ⟨(x.cps.toList.map lo1).toArray⟩
def upS (x : Str) : Str := ⟨(x.cps.toList.map up1).toArray⟩
def asc (x : Str) : Bool := x.cps.toList.all (fun c => decide (c < 128))
theorem lower_eq {x : Str} (h : asc x = true) : Txt.lower x = loS x := by
  rw [lower_ascii (fun c hc => of_decide_eq_true (List.all_eq_true.mp h c hc))]
  unfold loS
  congr 1
  apply Array.toList_inj.mp
  simp
theorem upper_eq {x : Str} (h : asc x = true) : Txt.upper x = upS x := by
  rw [upper_ascii (fun c hc => of_decide_eq_true (List.all_eq_true.mp h c hc))]
  unfold upS
  congr 1
  apply Array.toList_inj.mp
  simp
def ipChk (x : Str) : Bool := !ipF x || (decide (2 ≤ x.cps.size) && x.cps.getD (x.cps.size - 2) 0 == 46 && Sre.isDigit (x.cps.getD (x.cps.size - 1) 0) && (x.cps.toList.take (x.cps.size - 1)).all (fun c => !Sre.isDigit c))
theorem ipOk_of {x : Str} (h : ipChk x = true) : ipOk x := by
  unfold ipOk
  cases hi : ipF x with
  | false =>
    refine re_none _ fun i _ hlt => ?_
    have : ∀ c ∈ x.cps.toList, Sre.isDigit c = false := by
      intro c hc
      unfold ipF at hi
      simpa using (List.any_eq_false.mp hi c hc)
    exact this _ (by rw [Array.getD_eq_getD_getElem?, Array.getElem?_eq_getElem hlt]; simp)
  | true =>
    unfold ipChk at h
    rw [hi] at h
    simp only [Bool.not_true, Bool.false_or, Bool.and_eq_true, decide_eq_true_eq, beq_iff_eq] at h
    obtain ⟨⟨⟨h1, h2⟩, h3⟩, h4⟩ := h
    refine re_some _ (x.cps.size - 2) (by omega) h2 (by rw [show x.cps.size - 2 + 1 = x.cps.size - 1 by omega]; exact h3) fun i hi2 _ hlt => ?_
    have := List.all_eq_true.mp h4 (x.cps.getD (i + 1) 0) (by
      rw [Array.getD_eq_getD_getElem?, Array.getElem?_eq_getElem hlt]
      refine List.mem_iff_getElem?.mpr ⟨i + 1, ?_⟩
      rw [List.getElem?_take_of_lt (by omega)]
      simp [hlt])
    simpa using this
def dmA (a b : Str) : Bool :=
  loS a == loS b || (hdnF (loS a) && decide (Txt.rfind (loS a) (loS b) ≠ -1) && decide (Txt.rfind (loS a) (loS b) ≠ 0) &&
    Txt.startswith (loS b) (Str.ofString ".") && hdnF (Txt.slice (loS b) (some 1) none))
def udmA (a b : Str) : Bool :=
  if ipF (loS a) = true ∨ ipF (loS b) = true then loS a == loS b
  else (Txt.startswith (loS b) (Str.ofString ".") && Txt.endswith (loS a) (loS b)) || (!Txt.startswith (loS b) (Str.ofString ".") && (loS a == loS b))
/-- words of one to n labels -/
def wordsN : Nat → List (List Int)
  | 0 => [[]]
  | n + 1 => (wordsN n).flatMap fun w => [w ++ [0], w ++ [1]]
def words14 : List (List Int) := wordsN 1 ++ wordsN 2 ++ wordsN 3
def texts62 : List (List Int) := wordsN 1 ++ wordsN 2 ++ wordsN 3 ++ wordsN 4 ++ wordsN 5
def infx (w t : List Int) : Bool := (List.range (t.length + 1)).any fun i => (t.drop i).take w.length == w
def sufx (w t : List Int) : Bool := t.drop (t.length - w.length) == w
def tx (t : List Int) : Str := ⟨(((t.map fun n => (labF n).cps.toList).intersperse [46]).flatten).toArray⟩
def hostS (t : List Int) : Str := upS ⟨([120, 46] ++ (tx t).cps.toList ++ [46, 108, 111, 99, 97, 108]).toArray⟩
def zoneS (w : List Int) : Str := ⟨([46] ++ (tx w).cps.toList).toArray⟩
end Mine
end
section
namespace Mine
/-- the texts of k labels that run on -/
def runT (K : List (List Int)) : Nat → List (List Int)
  | 0 => [[]]
  | k + 1 => (runT K k).flatMap fun t => [t ++ [0], t ++ [1]].filter fun u => K.all fun w => !infx w u
/-- the first word within a text -/
def firstI (K : List (List Int)) (u : List Int) : Nat := K.findIdx fun w => infx w u
/-- the texts of k labels that have come to word i -/
def endT (K : List (List Int)) (i : Nat) : Nat → List (List Int)
  | 0 => []
  | k + 1 => (runT K k).flatMap fun t => [t ++ [0], t ++ [1]].filter fun u => firstI K u == i
def keptOf (ws : List (List Int)) : List (List Int) := ws.filter fun w => ws.all fun o => o == w || !infx o w
def overl (a w : List Int) (c : Nat) : Bool := decide (c ≤ w.length) && a.drop (a.length - c) == w.take c
def dueT (K : List (List Int)) (w : List Int) (size : Nat) : List (List Int) :=
  (List.range K.length).flatMap fun i => ((List.range ((K.getD i []).length)).map fun j => (K.getD i []).length - j).flatMap fun c =>
    if overl (K.getD i []) w c then (endT K i (size + c)).map (· ++ w.drop c) else []
def lawChk (K : List (List Int)) : Bool := K.all fun w => (List.range (6 - w.length)).all fun size => ((runT K size).map (· ++ w)).isPerm (dueT K w size)
theorem law_all : (words14.all fun a => words14.all fun b => lawChk (keptOf (wordsOf a b))) = true := by decide +kernel
theorem kept_all : (words14.all fun a => words14.all fun b => !(keptOf (wordsOf a b)).isEmpty && decide ((keptOf (wordsOf a b)).length ≤ 2) && (keptOf (wordsOf a b)).all fun w => words14.contains w) = true := by decide +kernel
theorem suf_all : (texts62.all fun u => words14.all fun w => infx w u.dropLast || (infx w u == sufx w u)) = true := by decide +kernel
structure KOk (K : List (List Int)) : Prop where
  ne : K ≠ []
  le : K.length ≤ 2
  mem : ∀ w ∈ K, w ∈ words14
  law : lawChk K = true
theorem kok {a b : List Int} (ha : a ∈ words14) (hb : b ∈ words14) : KOk (keptOf (wordsOf a b)) := by
  have h1 := List.all_eq_true.mp (List.all_eq_true.mp kept_all a ha) b hb
  have h2 := List.all_eq_true.mp (List.all_eq_true.mp law_all a ha) b hb
  simp only [Bool.and_eq_true, Bool.not_eq_true', List.isEmpty_eq_false_iff, decide_eq_true_eq, List.all_eq_true, List.contains_iff_mem] at h1
  exact ⟨h1.1.1, h1.1.2, h1.2, h2⟩
theorem wordsN_mem' : ∀ (n : Nat) (t : List Int), t.length = n → (∀ n ∈ t, n = 0 ∨ n = 1) → t ∈ wordsN n
  | 0, t, e, _ => by rw [List.length_eq_zero_iff.mp e]; exact .head _
  | n + 1, t, e, h => by
    have hne : t ≠ [] := by rintro rfl; cases e
    have hd := List.dropLast_concat_getLast hne
    have h1 := wordsN_mem' n t.dropLast (by rw [List.length_dropLast, e]; rfl) fun n hn => h n (List.dropLast_subset _ hn)
    unfold wordsN
    refine List.mem_flatMap.mpr ⟨t.dropLast, h1, ?_⟩
    rcases h (t.getLast hne) (List.getLast_mem hne) with e0 | e0
    · rw [e0] at hd; rw [hd]; exact .head _
    · rw [e0] at hd; rw [hd]; exact .tail _ (.head _)
theorem wordsN_mem (t : List Int) (h : ∀ n ∈ t, n = 0 ∨ n = 1) : t ∈ wordsN t.length := wordsN_mem' _ t rfl h
theorem texts_mem {t : List Int} (h : ∀ n ∈ t, n = 0 ∨ n = 1) (h1 : 1 ≤ t.length) (h5 : t.length ≤ 5) : t ∈ texts62 := by
  have := wordsN_mem t h
  unfold texts62
  simp only [List.mem_append]
  obtain e | e | e | e | e : t.length = 1 ∨ t.length = 2 ∨ t.length = 3 ∨ t.length = 4 ∨ t.length = 5 := by omega
  all_goals rw [e] at this
  all_goals simp [this]
theorem runT_len {K : List (List Int)} : ∀ k, ∀ t ∈ runT K k, t.length = k ∧ (∀ n ∈ t, n = 0 ∨ n = 1) ∧ ∀ w ∈ K, k ≠ 0 → infx w t = false
  | 0, t, h => by
    rw [show t = [] from List.mem_singleton.mp h]
    exact ⟨rfl, fun n hn => (nomatch hn), fun w _ h => absurd rfl h⟩
  | k + 1, u, h => by
    obtain ⟨t, ht, hu⟩ := List.mem_flatMap.mp h
    obtain ⟨hu, hK⟩ := List.mem_filter.mp hu
    obtain ⟨e1, e2, _⟩ := runT_len k t ht
    have hu : ∃ a, (a = 0 ∨ a = 1) ∧ u = t ++ [a] := by
      rcases List.mem_cons.mp hu with rfl | hu
      · exact ⟨0, .inl rfl, rfl⟩
      · exact ⟨1, .inr rfl, List.mem_singleton.mp hu⟩
    obtain ⟨a, ha, rfl⟩ := hu
    refine ⟨by simp [e1], ?_, ?_⟩
    · intro n hn
      rcases List.mem_append.mp hn with hn | hn
      · exact e2 n hn
      · rw [List.mem_singleton.mp hn]; exact ha
    · intro w hw _
      simpa using List.all_eq_true.mp hK w hw
/-- a text grown by one label -/
theorem grown {K : List (List Int)} (hK : KOk K) {k : Nat} (hk : k < 5) {t : List Int} (ht : t ∈ runT K k) {a : Int} (ha : a = 0 ∨ a = 1) : t ++ [a] ∈ texts62 ∧ ∀ w ∈ K, infx w (t ++ [a]) = sufx w (t ++ [a]) := by
  obtain ⟨e1, e2, e3⟩ := runT_len k t ht
  have h : t ++ [a] ∈ texts62 := by
    refine texts_mem ?_ (by simp) (by simp; omega)
    intro n hn
    rcases List.mem_append.mp hn with hn | hn
    · exact e2 n hn
    · rw [List.mem_singleton.mp hn]; exact ha
  refine ⟨h, fun w hw => ?_⟩
  have := List.all_eq_true.mp (List.all_eq_true.mp suf_all _ h) w (hK.mem w hw)
  rw [List.dropLast_concat] at this
  cases k with
  | zero =>
    have : t = [] := List.length_eq_zero_iff.mp e1
    subst this
    have hw0 : infx w [] = false := by
      have h0 : ∀ w ∈ words14, infx w [] = false := by decide +kernel
      exact h0 w (hK.mem w hw)
    simpa [hw0] using this
  | succ k =>
    rw [e3 w hw (by omega)] at this
    simpa using this
end Mine
end
section
namespace Mine
def DmPre (a b : Str) : Prop := a.length ≤ 1000 ∧ b.length ≤ 1000 ∧ ipOk (Txt.lower a) ∧ (Txt.slice (Txt.lower b) (some 1) none).length ≤ 100000 ∧ ipOk (Txt.slice (Txt.lower b) (some 1) none)
def UdPre (a b : Str) : Prop := a.length ≤ 1000 ∧ b.length ≤ 1000 ∧ ipOk (Txt.lower a) ∧ ipOk (Txt.lower b)
def RcPre (a : Str) : Prop := a.length ≤ 1000 ∧ ipOk a
/-- a call's worth and what it asks -/
structure DmIs (a b : Str) (v : Bool) : Prop where
  pre : DmPre a b
  val : dmF a b = v
structure UdIs (a b : Str) (v : Bool) : Prop where
  pre : UdPre a b
  val : udmF a b = v
structure RcIs (a r : Str) : Prop where
  pre : RcPre a
  val : reachF a = r
theorem dmV {w : World} {mean mg mb} {news : List (Addr × Obj)} {a : Str} {ta : Tok} {b : Str} {tb : Tok} {v : Bool} (h : DmIs a b v) : Cl 2 w mean mg mb 57 news True [.str a ta, .str b tb] (fun _ => .bool v) := by
  intro dp un gd cn cs a' ccd cl outer A₀ base h₀ L m s Q E k1 k2 k3 k4 k5 kK _ kd ku ret
  exact dm k1 k2 k3 k4 k5 kK h.pre kd ku (fun t h' tk' F N => by rw [h.val]; exact ret t h' tk' F N)
theorem udmV {w : World} {mean mg mb} {news : List (Addr × Obj)} {a : Str} {ta : Tok} {b : Str} {tb : Tok} {v : Bool} (h : UdIs a b v) : Cl 2 w mean mg mb 71 news True [.str a ta, .str b tb] (fun _ => .bool v) := by
  intro dp un gd cn cs a' ccd cl outer A₀ base h₀ L m s Q E k1 k2 k3 k4 k5 kK _ kd ku ret
  exact udm k1 k2 k3 k4 k5 kK h.pre kd ku (fun t h' tk' F N => by rw [h.val]; exact ret t h' tk' F N)
theorem reachV {w : World} {mean mg mb} {news : List (Addr × Obj)} {a r : Str} {ta : Tok} (h : RcIs a r) : Cl 2 w mean mg mb 78 news True [.str a ta] (fun t => .str r t) := by
  intro dp un gd cn cs a' ccd cl outer A₀ base h₀ L m s Q E k1 k2 k3 k4 k5 kK _ kd ku ret
  exact reach' k1 k2 k3 k4 k5 kK h.pre kd ku (fun t h' tk' F N => by rw [h.val]; exact ret t h' tk' F N)
local macro_rules | `(tactic| walk_at "call ref") => `(tactic| (k_here; (with_reducible show wpAny _ _ (call (Value.ref 57) _) _ _ _); k_dflt (refine' dmV ?hv ?k1 ?k2 ?k3 ?k4 ?k5 ?kK trivial ?kd ?ku ?_); (case hv => first | with_reducible assumption | assumption); (case k1 => k_asm); (case k2 => k_asm); (case k3 => k_asm); (case k4 => k_asm); (case k5 => k_asm); (case kK => first | exact rfl | assumption); (case kd => ktr_room); (case ku => ktr_units); intro t9 h9 tk9 F9 N9; (try k_sweep); (try dsimp only); (try k_fold)))
local macro_rules | `(tactic| walk_at "call ref") => `(tactic| (k_here; (with_reducible show wpAny _ _ (call (Value.ref 71) _) _ _ _); k_dflt (refine' udmV ?hv ?k1 ?k2 ?k3 ?k4 ?k5 ?kK trivial ?kd ?ku ?_); (case hv => first | with_reducible assumption | assumption); (case k1 => k_asm); (case k2 => k_asm); (case k3 => k_asm); (case k4 => k_asm); (case k5 => k_asm); (case kK => first | exact rfl | assumption); (case kd => ktr_room); (case ku => ktr_units); intro t9 h9 tk9 F9 N9; (try k_sweep); (try dsimp only); (try k_fold)))
local macro_rules | `(tactic| walk_at "call ref") => `(tactic| (k_here; (with_reducible show wpAny _ _ (call (Value.ref 78) _) _ _ _); k_dflt (refine' reachV ?hv ?k1 ?k2 ?k3 ?k4 ?k5 ?kK trivial ?kd ?ku ?_); (case hv => first | with_reducible assumption | assumption); (case k1 => k_asm); (case k2 => k_asm); (case k3 => k_asm); (case k4 => k_asm); (case k5 => k_asm); (case kK => first | exact rfl | assumption); (case kd => ktr_room); (case ku => ktr_units); intro t9 h9 tk9 F9 N9; (try k_sweep); (try dsimp only); (try k_fold)))
def hostF (x : Str) : Str := Txt.upper (Str.ofString "x." ++ x ++ Str.ofString ".local")
structure ArmsOk (x H S : Str) (v : Bool) : Prop where
  lx : x.length ≤ 100
  lH : H.length ≤ 200
  l1 : (Str.ofString "x." ++ x ++ Str.ofString ".local").length ≤ 200
  lS : S.length ≤ 200
  hH : Txt.upper (Str.ofString "x." ++ x ++ Str.ofString ".local") = H
  hS : Txt.lower H = S
  h1 : DmIs (H ++ Str.ofString ".7") (S ++ Str.ofString ".7") true
  h2 : UdIs H S true
  h3 : UdIs (H ++ Str.ofString ".7") (S ++ Str.ofString ".7") true
  h4 : DmIs H x false
  h5 : DmIs H (Str.ofString "." ++ x ++ Str.ofString ".") false
  h6 : DmIs (H ++ Str.ofString ".7") (Str.ofString "." ++ x) false
  h7 : DmIs (Str.ofString "." ++ H) (Str.ofString "." ++ x) false
  h8 : UdIs H (Str.ofString "." ++ x) false
  h9 : UdIs H (x ++ Str.ofString ".local") false
  h10 : UdIs (H ++ Str.ofString ".7") (Str.ofString ".7") false
  h11 : DmIs H (Txt.slice (Str.ofString "." ++ x) none (some (-1))) v
  hv : (Txt.slice x (some (-2)) none == Str.ofString "Ba") = v
  r1 : RcIs (H ++ Str.ofString ".7") (H ++ Str.ofString ".7")
  r2 : RcIs (Str.ofString "a.com") (Str.ofString "a.com")
  r3 : RcIs (Str.ofString "local") (Str.ofString "local")
  oH : PyData.strOk (H ++ Str.ofString ".7") = true
theorem upV {prog : Program} {w : World} {A : Around} {E : Value → Shared → Prop} {s : Shared} {x y : Str} {t : Tok} {Q : Value → Shared → Prop} (h : Txt.upper x = y) (hl : x.length ≤ 200) (hq : Q (.str y s.toks) { s with toks := s.toks + 1 }) : wpAny (model prog w) A (call (.builtin "str.upper") [.str x t]) Q E s := by
  subst h; exact SCL.upper (by omega) (fun _ => hq)
theorem loV {prog : Program} {w : World} {A : Around} {E : Value → Shared → Prop} {s : Shared} {x y : Str} {t : Tok} {Q : Value → Shared → Prop} (h : Txt.lower x = y) (hl : x.length ≤ 200) (hq : Q (.str y s.toks) { s with toks := s.toks + 1 }) : wpAny (model prog w) A (call (.builtin "str.lower") [.str x t]) Q E s := by
  subst h; exact SCL.lower (by omega) (fun _ => hq)
local macro_rules | `(tactic| walk_at "call builtin:str.upper") => `(tactic| (k_here; refine' upV ?h ?l ?_; (case h => first | with_reducible assumption | assumption); (case l => first | with_reducible assumption | assumption)))
local macro_rules | `(tactic| walk_at "call builtin:str.lower") => `(tactic| (k_here; refine' loV ?h ?l ?_; (case h => first | with_reducible assumption | assumption); (case l => first | with_reducible assumption | assumption)))
local macro_rules | `(tactic| walk_at "inplaceOp Add") => `(tactic| (k_here; (with_reducible show wpAny _ _ (inplaceOp _ (Value.ref _) (Value.ref _)) _ _ _); k_dflt (refine' iadd_K ?F ?N ?b ?U ?e ?ne ?z ?_; (case F => k_asm); (case N => k_asm); (case b => k_mem); (case e => exact rfl); (case U => k_upd); (case ne => decide); (case z => decide); k_whole); intro h' F' N'; (try k_sweep)))
local macro_rules | `(tactic| walk_at "eval ListComp") => `(tactic| (k_here; k_dflt (refine LCg.ListComp_U (F₀ := by k_asm) (by rfl) (by decide) (by rfl) (by decide) (by rfl) ?_)))
def reprB (b : Bool) : Str := if b = true then Str.ofString "True" else Str.ofString "False"
theorem rep11 (v : Bool) : ∀ x ∈ [reprB true, reprB true, reprB true, reprB false, reprB false, reprB false, reprB false, reprB false, reprB false, reprB false, reprB v], PyData.strOk x = true := by
  have : ∀ b, PyData.strOk (reprB b) = true := by decide +kernel
  intro x hx
  simp only [List.mem_cons, List.not_mem_nil, or_false] at hx
  rcases hx with h | h | h | h | h | h | h | h | h | h | h <;> (rw [h]; exact this _)
theorem rep3 {x : Str} (h : PyData.strOk x = true) : ∀ y ∈ [x, Str.ofString "a.com", Str.ofString "local"], PyData.strOk y = true := by
  intro y hy
  simp only [List.mem_cons, List.not_mem_nil, or_false] at hy
  rcases hy with h' | h' | h' <;> subst h'
  · exact h
  · decide +kernel
  · decide +kernel
theorem rep_e {v : Bool} {z : Str} (hz : reprB v = z) : [Str.ofString "True", Str.ofString "True", Str.ofString "True", Str.ofString "False", Str.ofString "False", Str.ofString "False", Str.ofString "False", Str.ofString "False", Str.ofString "False", Str.ofString "False", z] =
    [reprB true, reprB true, reprB true, reprB false, reprB false, reprB false, reprB false, reprB false, reprB false, reprB false, reprB v] := by
  rw [show reprB true = Str.ofString "True" from if_pos rfl, show reprB false = Str.ofString "False" from if_neg Bool.false_ne_true, hz]
theorem ne_same {prog : Program} {w : World} {A : Around} {E : Value → Shared → Prop} {s : Shared} {h₀ : Heap} {L a b : Addr} {news : List (Addr × Obj)} {Q : Value → Shared → Prop} {lx ly : List (Str × Tok)} {n n' : Nat} (N : News h₀ L s.heap news) (ha : (a, listOf (strValues lx).toArray n) ∈ news) (hb : (b, listOf (strValues ly).toArray n') ∈ news)
    (ox : ∀ x ∈ lx.map (·.1), PyData.strOk x = true) (e : ly.map (·.1) = lx.map (·.1)) (hu : A.units + 64 < cLine) (h : Q (.bool false) s) :
    wpAny (model prog w) A (compareOp .NotEq (.ref a) (.ref b)) Q E s := by
  refine ne_strs N ha hb ox (by rw [e]; exact ox) hu ?_
  rw [e, decide_eq_true rfl]
  exact h
theorem eq_same {prog : Program} {w : World} {A : Around} {E : Value → Shared → Prop} {s : Shared} {h₀ : Heap} {L a b : Addr} {news : List (Addr × Obj)} {Q : Value → Shared → Prop} {lx ly : List (Str × Tok)} {n n' : Nat} (N : News h₀ L s.heap news) (ha : (a, listOf (strValues lx).toArray n) ∈ news) (hb : (b, listOf (strValues ly).toArray n') ∈ news)
    (ox : ∀ x ∈ lx.map (·.1), PyData.strOk x = true) (e : ly.map (·.1) = lx.map (·.1)) (hu : A.units + 64 < cLine) (h : Q (.bool true) s) :
    wpAny (model prog w) A (compareOp .Eq (.ref a) (.ref b)) Q E s := by
  refine eq_strs N ha hb ox (by rw [e]; exact ox) hu ?_
  rw [e, decide_eq_true rfl]
  exact h
local macro_rules | `(tactic| walk_at "binaryOp Mult ref int") => `(tactic| (k_here; (with_reducible show wpAny _ _ (binaryOp Operator.Mult (Value.ref _) (Value.int _ _)) _ _ _); k_dflt (refine' KMa.mul ?F ?N ?l ?lo ?hi ?z ?e ?_; (case F => k_asm); (case N => k_asm); (case l => exact News.isList (by k_asm) (.head _)); (case lo => decide); (case hi => decide); (case z => (simp only [List.length_cons, List.length_nil]; decide)); (case e => (simp only [Int.reduceToNat, List.replicate_succ, List.replicate_zero, List.flatten_cons, List.flatten_nil, List.cons_append, List.nil_append, List.append_nil]; first | done | exact rfl)); k_whole); intro D' h' F' N' l1; (try k_lt l1); (try k_sweep)))
abbrev toldL (v : Bool) : List Value := [.bool true, .bool true, .bool true, .bool false, .bool false, .bool false, .bool false, .bool false, .bool false, .bool false, .bool v]
theorem arms {w : World} {mean mg mb} {news : List (Addr × Obj)} {x H S : Str} {v : Bool} {tx : Tok} (hA : ArmsOk x H S v) : Cl 3 w mean mg mb 157 news True [.str x tx] (fun _ => .bool true) := by
  unfold Cl; intros; rename_i hpre _ _ hret
  obtain ⟨lx, lH, l1, lS, hH, hS, h1, h2, h3, h4, h5, h6, h7, h8, h9, h10, h11, hv, r1, r2, r3, oH⟩ := hA
  w_top off
  refine wpAny_call ?_
  cell_enter
  k_steps
  rename News _ _ _ _ => NN
  rename Fr _ _ _ _ => FF
  have hm := NN _ (.tail _ (.tail _ (.tail _ (.head _))))
  have N1 : News _ _ _ ((_, listOf (toldL v).toArray 4) :: news) := fun p hp => by
    rcases List.mem_cons.mp hp with rfl | hp
    · exact hm
    · exact NN _ (.tail _ (.tail _ (.tail _ (.tail _ hp))))
  clear hm
  k_dflt (refine LCg.CompSrc.ledger (by rfl) FF N1 (.head _) (by rw [sizeLine_eq]; exact Nat.le_of_ble_eq_true rfl) ?_)
  intro g1
  refine rest_map (vs := toldL v) (fun a y => ∃ b t, a = .bool b ∧ y = .str (reprB b) t) (.inr ⟨_, .head _, rfl, _, rfl⟩) ?turn ?fin
  case fin =>
    intro ys hy D h' tk' F' N' o1
    rcases hy with _ | ⟨⟨b1, t1, e1, f1⟩, hy⟩; subst f1; cases e1
    rcases hy with _ | ⟨⟨b2, t2, e2, f2⟩, hy⟩; subst f2; cases e2
    rcases hy with _ | ⟨⟨b3, t3, e3, f3⟩, hy⟩; subst f3; cases e3
    rcases hy with _ | ⟨⟨b4, t4, e4, f4⟩, hy⟩; subst f4; cases e4
    rcases hy with _ | ⟨⟨b5, t5, e5, f5⟩, hy⟩; subst f5; cases e5
    rcases hy with _ | ⟨⟨b6, t6, e6, f6⟩, hy⟩; subst f6; cases e6
    rcases hy with _ | ⟨⟨b7, t7, e7, f7⟩, hy⟩; subst f7; cases e7
    rcases hy with _ | ⟨⟨b8, t8, e8, f8⟩, hy⟩; subst f8; cases e8
    rcases hy with _ | ⟨⟨b9, t9, e9, f9⟩, hy⟩; subst f9; cases e9
    rcases hy with _ | ⟨⟨b10, t10, e10, f10⟩, hy⟩; subst f10; cases e10
    rcases hy with _ | ⟨⟨b11, t11, e11, f11⟩, hy⟩; subst f11; cases e11
    cases hy
    clear N1 NN FF
    iterate 41 walk1
    rw [hv, show (if v = true then Str.ofString "True" else Str.ofString "False") = reprB v from rfl]
    generalize hz : reprB v = z
    iterate 2 walk1
    with_reducible show wpAny _ _ (compareOp CmpOp.NotEq (Value.ref _) (Value.ref _)) _ _ _
    refine' ne_same (lx := [(reprB true, _), (reprB true, _), (reprB true, _), (reprB false, _), (reprB false, _), (reprB false, _), (reprB false, _), (reprB false, _), (reprB false, _), (reprB false, _), (reprB v, _)]) (ly := [(Str.ofString "True", _), (Str.ofString "True", _), (Str.ofString "True", _), (Str.ofString "False", _), (Str.ofString "False", _), (Str.ofString "False", _), (Str.ofString "False", _), (Str.ofString "False", _), (Str.ofString "False", _), (Str.ofString "False", _), (z, _)]) ?N ?a1 ?b1 ?ox ?e1 ?u ?_
    case N => k_asm
    case a1 => k_mem
    case b1 => k_mem
    case ox => exact rep11 v
    case e1 => exact rep_e hz
    case u => ktr_units
    k_whole
    iterate 30 walk1
    iterate 22 walk1
    with_reducible show wpAny _ _ (compareOp CmpOp.Eq (Value.ref _) (Value.ref _)) _ _ _
    refine' eq_same (lx := [(H ++ Str.ofString ".7", _), (Str.ofString "a.com", _), (Str.ofString "local", _)]) (ly := [(H ++ Str.ofString ".7", _), (Str.ofString "a.com", _), (Str.ofString "local", _)]) ?N ?a1 ?b1 ?ox ?e1 ?u ?_
    case N => k_asm
    case a1 => k_mem
    case b1 => k_mem
    case ox => exact rep3 oH
    case e1 => rfl
    case u => ktr_units
    k_whole
    k_steps
    refine' cb_retB hret ?e1 ?e2 ?e3
    case e2 => k_asm
    case e3 => refine' cb_drop ?cbN ?cbS; (case cbN => assumption); (case cbS => (intro p hp; repeat' (first | (with_reducible exact hp) | with_reducible refine List.mem_cons_of_mem _ ?_)))
    case e1 => rfl
  case turn =>
    intro u I oI C oC D m₂ ys h tk E' hk hC hx F N off ne
    obtain ⟨b, rfl⟩ : ∃ b, u = .bool b := by
      simp only [toldL, List.mem_cons, List.not_mem_nil, or_false] at hk
      rcases hk with e | e | e | e | e | e | e | e | e | e | e <;> exact ⟨_, e⟩
    cases b
    all_goals k_steps
    all_goals k_asm
end Mine
end
section
namespace Mine
local macro_rules | `(tactic| walk_at "exec For Name Name cons nil") => `(tactic| (k_here; (rename Fr _ _ _ _ => lF'); (with_unfolding_all refine' For_invVF lF' ?k1 ?k2 ?_; (case k1 => exact rfl); (case k2 => exact rfl); k_whole)))
local macro_rules | `(tactic| kst_same) => `(tactic| (intro z h1 h2 h3; (try simp only [List.forall_mem_cons, List.not_mem_nil, false_implies, implies_true, and_true, ne_eq] at h2); (try simp only [List.contains_cons, List.contains_nil, Bool.or_false, Bool.or_eq_false_iff, beq_eq_false_iff_ne, ne_eq] at h3); simp [kstB, h1, h2, h3]; done))
local macro_rules | `(tactic| k_all) => `(tactic| with_reducible assumption)
theorem two_at {a b : Int} {ta tb : Tok} {i : Nat} {v : Value} (hv : [Value.int a ta, Value.int b tb][i]? = some v) : ∃ e t, v = Value.int e t ∧ ((i = 0 ∧ e = a) ∨ (i = 1 ∧ e = b)) := by
  rcases i with _ | _ | i
  · cases hv; exact ⟨_, _, rfl, .inl ⟨rfl, rfl⟩⟩
  · cases hv; exact ⟨_, _, rfl, .inr ⟨rfl, rfl⟩⟩
  · cases hv
theorem fmod_nat (e : Int) : ∃ r : Nat, e.fmod 24 = (r : Int) ∧ r < 24 := by
  refine ⟨(e.fmod 24).toNat, ?_, ?_⟩
  · have := Int.fmod_nonneg_of_pos e (b := 24) (by decide); omega
  · have := Int.fmod_lt_of_pos e (b := 24) (by decide); omega
theorem fmod3 (r : Nat) : ((r : Int).fmod 3 + 1) = ((r % 3 + 1 : Nat) : Int) := by
  rw [Int.fmod_eq_emod_of_nonneg _ (by decide)]; omega
theorem rng_small3 (r : Nat) : Builtin.Range.small 0 ((r : Int).fmod 3 + 1) 1 = true := by
  rw [fmod3]; exact small_one (by decide) (by decide) (by omega) (by omega)
theorem rng_size3 (r : Nat) : Builtin.Range.rangeSize 0 ((r : Int).fmod 3 + 1) 1 = ((r % 3 + 1 : Nat) : Int) := by
  rw [fmod3]; exact (rangeSize_nat _ _).trans (congrArg Nat.cast (by omega))
theorem off1_mem {D : Addr} : ∀ {l : List (Addr × Obj)}, LCg.Off1 D l → ∀ p ∈ l, @Ne Nat p.1 D
  | [], _, _, h => nomatch h
  | _ :: _, x, p, h => by
    rcases List.mem_cons.mp h with rfl | h
    · exact x.1
    · exact off1_mem x.2 p h
theorem snoc_eq {vs : List Value} {ns : List Int} {x y : Int} {t : Tok} (h : IntsAre vs ns) (e : x = y) : IntsAre (vs ++ [.int x t]) (ns ++ [y]) := e ▸ IntsAre.snoc h x t
theorem bit_at {r i : Nat} (hr : r < 24) (hi : i < 3) : Builtin.bitAnd (((r : Int).fdiv 3).fdiv (2 ^ (0 + (i : Int)).toNat)) 1 = (((r / 3) >>> i % 2 : Nat) : Int) := by
  have : ∀ r : Nat, r < 24 → ∀ i : Nat, i < 3 → Builtin.bitAnd (((r : Int).fdiv 3).fdiv (2 ^ (0 + (i : Int)).toNat)) 1 = (((r / 3) >>> i % 2 : Nat) : Int) := by decide +kernel
  exact this r hr i hi
theorem led_ne {W c it : Addr} {o oc : Obj} {WL : List WI} {news : List (Addr × Obj)} (h1 : @Ne Nat W it) (h2 : @Ne Nat c it) (h3 : ∀ x ∈ WL, @Ne Nat x.a it) (h4 : ∀ p ∈ news, @Ne Nat p.1 it) : ∀ p ∈ (W, o) :: (c, oc) :: (entsOf WL ++ news), p.1 ≠ it := by
  intro p hp
  rcases List.mem_cons.mp hp with rfl | hp
  · exact h1
  · rcases List.mem_cons.mp hp with rfl | hp
    · exact h2
    · rcases List.mem_append.mp hp with hp | hp
      · obtain ⟨x, hx, rfl⟩ := List.mem_map.mp hp
        exact h3 x hx
      · exact h4 p hp
theorem words_new {a b e : Int} {i r : Nat} (he : (i = 0 ∧ e = a) ∨ (i = 1 ∧ e = b)) (hw : wordOf e = bitsOf r) (hn : ¬ bitsOf r ∈ (if i = 0 then [] else if i = 1 then [wordOf a] else wordsOf (wordOf a) (wordOf b))) :
    (if i = 0 then [] else if i = 1 then [wordOf a] else wordsOf (wordOf a) (wordOf b)) ++ [bitsOf r] = (if i + 1 = 0 then [] else if i + 1 = 1 then [wordOf a] else wordsOf (wordOf a) (wordOf b)) := by
  rcases he with ⟨rfl, rfl⟩ | ⟨rfl, rfl⟩
  · simp [hw]
  · simp only [Nat.one_ne_zero, if_false, if_true] at hn ⊢
    have : bitsOf r ≠ wordOf a := by simpa using hn
    simp [wordsOf, hw, this]
theorem words_old {a b e : Int} {i r : Nat} (he : (i = 0 ∧ e = a) ∨ (i = 1 ∧ e = b)) (hw : wordOf e = bitsOf r) (hn : bitsOf r ∈ (if i = 0 then [] else if i = 1 then [wordOf a] else wordsOf (wordOf a) (wordOf b))) :
    (if i = 0 then [] else if i = 1 then [wordOf a] else wordsOf (wordOf a) (wordOf b)) = (if i + 1 = 0 then [] else if i + 1 = 1 then [wordOf a] else wordsOf (wordOf a) (wordOf b)) := by
  rcases he with ⟨rfl, rfl⟩ | ⟨rfl, rfl⟩
  · simp at hn
  · simp only [Nat.one_ne_zero, if_false, if_true] at hn ⊢
    have : bitsOf r = wordOf a := by simpa using hn
    simp [wordsOf, hw, this]
theorem words {w : World} {mean mg mb} {news : List (Addr × Obj)} {l : Addr} {a b : Int} {ta tb : Tok} {nn : Nat} (hl : (l, listOf [Value.int a ta, Value.int b tb].toArray nn) ∈ news)
    {dp un : Nat} {gd : Option (List Code)} {cn : Str} {cs : Scope} {a' : Addr} {ccd : Value} {cl : List (Str × Addr)} {outer : List Env} {A₀ : Around} {base h₀ : Heap} {L : Addr} {m : Str → Option Value} {s : Shared} {Q E : Value → Shared → Prop}
    (k1 : Below A₀ base outer h₀) (k2 : Fr h₀ L s.heap m) (k3 : (hd.heap_39 w.params).In h₀) (k4 : News h₀ L s.heap news) (k5 : Top hd.view_39 (looseW hd.view_39 [Str.ofString "IPV4_RE"]) mean mg mb h₀) (kK : cs.kind = .function)
    (kd : dp + 1 < recursionLimit) (ku : un + 408 < cLine)
    (hret : ∀ (W : Addr) (WL : List WI) (n : Nat) (h' : Heap) (tk' : Nat), Fr h₀ L h' m → News h₀ L h' ((W, listOf (refsOf WL).toArray n) :: (entsOf WL ++ news)) → (∀ p ∈ news, @Ne Nat p.1 W) → (∀ x ∈ WL, ∀ p ∈ news, @Ne Nat p.1 x.a) →
      (∀ x ∈ WL, @Ne Nat x.a W) → WL.map (·.ns) = wordsOf (wordOf a) (wordOf b) → (∀ x ∈ WL, IntsAre x.vs x.ns) → Q (.ref W) { s with heap := h', toks := tk' }) :
    wpAny (model PySem.Challenge.pw_wn0092_01 w) (ktrTop dp un gd cn cs L a' ccd cl outer) (call (.ref 133) [.ref l]) Q E s := by
  w_top off
  refine wpAny_call ?_
  refine' code_defC ?k1 ?k2 ?k3 ?k4 ?k5 ?kA ?kF ?kK ?k6 ?k7 ?k8 ?k9 ?kB ?kD ?_ ?c2 ?c3 ?c4
  case kA => exact rfl
  case kF => exact rfl
  case kK => assumption
  case k1 => k_asm
  case k2 => k_asm
  case k3 => k_asm
  case k4 => k_asm
  case k5 => k_asm
  case k6 => k_is
  case k7 => k_is
  case k8 => ktr_room
  case k9 => exact BindsTo.of_eq rfl
  case kB => exact rfl
  case kD => decide +kernel
  case c2 => exact rfl
  case c3 => exact rfl
  case c4 => exact rfl
  k_whole
  intro g' L' h' tk' cells' FG' F' N' Y' B' X' T' l1
  (try k_lt l1)
  k_cells Y'
  (try simp only [List.cons_append, List.nil_append] at N')
  (try dsimp only); (try k_lift B'); (try k_fold)
  iterate 10 walk1
  rename_i oc0 d0 W hA lW hB F1 N1
  refine' st_led (σ := (List WI × Nat) × Obj) (vs := [Value.int a ta, Value.int b tb]) (nn := nn) (fun c => (W, listOf (refsOf c.1.1).toArray c.1.2) :: (L' + 1, c.2) :: (entsOf c.1.1 ++ news)) (fun _ => []) [Str.ofString "word"]
    (fun i c => (∀ x ∈ c.1.1, ∀ p ∈ news, @Ne Nat p.1 x.a) ∧ (∀ x ∈ c.1.1, IntsAre x.vs x.ns) ∧ (∀ x ∈ c.1.1, @Ne Nat x.a W ∧ @Ne Nat x.a (L' + 1)) ∧ c.1.1.length ≤ i ∧ c.1.1.map (·.ns) = (if i = 0 then [] else if i = 1 then [wordOf a] else wordsOf (wordOf a) (wordOf b)) ∧ ∃ v, c.2.data = .cell v)
    (([], 0), oc0) rfl F1 N1 ?hl ?hk ?hp ?turn ?done
  case hl => exact fun c => .tail _ (.tail _ (List.mem_append_right _ hl))
  case hk => kst_all
  case hp =>
    refine ⟨?_, ?_, ?_, Nat.le_refl _, rfl, _, d0⟩ <;> (intro x hx; cases hx)
  case turn =>
    intro i v c u h tk it io hv hP ho F N
    obtain ⟨⟨WL, n⟩, oc⟩ := c
    obtain ⟨hP1, hP2, hP3, hP4, hP5, cv, hP6⟩ := hP
    dsimp only at hP1 hP2 hP3 hP4 hP5 hP6 F N ho
    obtain ⟨e, t, rfl, he⟩ : ∃ e t, v = Value.int e t ∧ ((i = 0 ∧ e = a) ∨ (i = 1 ∧ e = b)) := two_at hv
    have hnc : ∀ p ∈ entsOf WL ++ news, @Ne Nat p.1 (L' + 1) := by
      intro p hp
      rcases List.mem_append.mp hp with h1 | h1
      · obtain ⟨x, hx, rfl⟩ := List.mem_map.mp h1
        exact (hP3 x hx).2
      · have : @LT.lt Nat _ p.1 L' := l1 p h1
        omega
    have hnW : ∀ p ∈ entsOf WL ++ news, @Ne Nat p.1 W := by
      intro p hp
      rcases List.mem_append.mp hp with h1 | h1
      · obtain ⟨x, hx, rfl⟩ := List.mem_map.mp h1
        exact (hP3 x hx).1
      · have : @LT.lt Nat _ p.1 L' := l1 p h1
        have := lW.1
        omega
    have hit1 : @Ne Nat (L' + 1) it := ho _ (.tail _ (.head _))
    have hit2 : @Ne Nat W it := ho _ (.head _)
    have hWL : @Ne Nat W (L' + 1) := by have := lW.1; omega
    obtain ⟨r, hr, hr24⟩ := fmod_nat e
    iterate 6 walk1
    rw [hr]
    iterate 16 walk1
    rename Obj => oc2
    rename News _ _ _ _ => N2
    rename Fr _ _ _ _ => F2
    rename IsRange _ _ _ _ _ _ _ _ => R2
    rename _ = Data.cell _ => dc
    refine LCg.CompSrc.range (by rfl) F2 N2 R2 (rng_small3 r) (rng_size3 r) (by rw [sizeLine_eq]; omega) ?_
    intro g2
    refine rest_gen (fun i ys nw => nw = _ ∧ IntsAre ys ((List.range i).map fun j => (((r / 3) >>> j % 2 : Nat) : Int))) ⟨rfl, .nil⟩ ?turnC ?finC
    case finC =>
      rintro ys nw ⟨rfl, hys⟩
      intro D h tk F N oD
      have oDm := off1_mem oD
      have oD1 : @Ne Nat it D := oDm _ (.head _)
      have oD2 : @Ne Nat W D := oDm _ (.tail _ (.head _))
      have oD3 : @Ne Nat (L' + 1) D := oDm _ (.tail _ (.tail _ (.head _)))
      iterate 5 walk1
      refine' notIn_wl (l := WL) (vs := ys) (nn := ys.length) N (.tail _ (.tail _ (.head _))) ?hm hP2 (.head _) hys ?hu ?_
      case hm => exact fun x hx => .tail _ (.tail _ (.tail _ (.tail _ (List.mem_append_left _ (List.mem_map_of_mem hx)))))
      case hu => ktr_units
      have hw : wordOf e = bitsOf r := by unfold wordOf; rw [hr]; rfl
      have hmem : ∀ p ∈ news, @Ne Nat p.1 D := fun p hp => oDm p (.tail _ (.tail _ (.tail _ (List.mem_append_right _ hp))))
      have hxD : ∀ x ∈ WL, @Ne Nat x.a D := fun x hx => oDm x.ent (.tail _ (.tail _ (.tail _ (List.mem_append_left _ (List.mem_map_of_mem hx)))))
      have hx0 : ∀ x ∈ WL, @Ne Nat x.a it := fun x hx => ho x.ent (.tail _ (.tail _ (List.mem_append_left _ (List.mem_map_of_mem hx))))
      have hn0 : ∀ p ∈ news, @Ne Nat p.1 it := fun p hp => ho p (.tail _ (.tail _ (List.mem_append_right _ hp)))
      k_steps
      · refine' st_end ((WL, n), oc2) (by assumption) (by assumption) ?sub ?ha ?hk ?hr ?hp
        case sub => exact fun p hp => .tail _ hp
        case ha => exact led_ne (Ne.symm hit2).symm (Ne.symm hit1).symm hx0 hn0
        case hk => kst_all
        case hr => kst_same
        case hp =>
          refine ⟨hP1, hP2, hP3, Nat.le_succ_of_le hP4, ?_, _, by assumption⟩
          dsimp only
          rename _ ∈ List.map _ _ => hin
          rw [hP5]
          exact words_old he hw (hP5 ▸ hin)
      · refine' st_end ((WL ++ [⟨D, ys, bitsOf r, ys.length⟩], n + 1), oc2) (by assumption) (by assumption) ?sub ?ha ?hk ?hr ?hp
        case sub =>
          intro p hp
          rcases List.mem_cons.mp hp with rfl | hp
          · exact .tail _ (.head _)
          · rcases List.mem_cons.mp hp with rfl | hp
            · refine .tail _ (.tail _ ?_)
              rw [List.push_toArray]
              dsimp only
              rw [refsOf, refsOf, List.map_append]
              exact .head _
            · rcases List.mem_cons.mp hp with rfl | hp
              · exact .tail _ (.tail _ (.tail _ (.head _)))
              · simp only [entsOf, List.map_append, List.mem_append, List.map_cons, List.map_nil, List.mem_singleton] at hp
                rcases hp with (hp | rfl) | hp
                · exact .tail _ (.tail _ (.tail _ (.tail _ (List.mem_append_left _ hp))))
                · exact .head _
                · exact .tail _ (.tail _ (.tail _ (.tail _ (List.mem_append_right _ hp))))
        case ha => exact led_ne (Ne.symm hit2).symm (Ne.symm hit1).symm (fun x hx => by
          rcases List.mem_append.mp hx with hx | hx
          · exact hx0 x hx
          · rw [List.mem_singleton.mp hx]; exact Ne.symm oD1) hn0
        case hk => kst_all
        case hr => kst_same
        case hp =>
          refine ⟨?_, ?_, ?_, ?_, ?_, _, by assumption⟩
          · intro x hx
            rcases List.mem_append.mp hx with hx | hx
            · exact hP1 x hx
            · rw [List.mem_singleton.mp hx]; exact hmem
          · intro x hx
            rcases List.mem_append.mp hx with hx | hx
            · exact hP2 x hx
            · rw [List.mem_singleton.mp hx]; exact hys
          · intro x hx
            rcases List.mem_append.mp hx with hx | hx
            · exact hP3 x hx
            · rw [List.mem_singleton.mp hx]; exact ⟨Ne.symm oD2, Ne.symm oD3⟩
          · dsimp only; rw [List.length_append]; simp; omega
          · dsimp only
            rw [List.map_append, hP5]
            rename ¬ _ => hnin
            exact words_new he hw (fun h1 => hnin (hP5 ▸ h1))
    case turnC =>
      rintro i v ys nw I oI C oC D m₂ h tk E' hi ⟨t, rfl⟩ ⟨rfl, hys⟩ hC hx F N off ne
      iterate 10 walk1
      refine' LCg.CompEnd.intro (by assumption) (by assumption) _ ?sub off trivial ?_
      case sub => exact fun p hp => hp
      refine ⟨rfl, ?_⟩
      rw [List.range_succ, List.map_append]
      exact snoc_eq hys (bit_at hr24 (by omega))

  case done =>
    intro c u h tk hP F N
    obtain ⟨⟨WL, n⟩, oc⟩ := c
    obtain ⟨hP1, hP2, hP3, hP4, hP5, cv, hP6⟩ := hP
    dsimp only at hP1 hP2 hP3 hP4 hP5 hP6 F N
    k_steps
    rename Fr _ _ _ _ => kF
    rename News _ _ _ _ => kN
    refine hret W WL n h tk kF (fun p hp => ?_) ?_ hP1 (fun x hx => (hP3 x hx).1) (by rw [hP5]; rfl) hP2
    · rcases List.mem_cons.mp hp with rfl | hp
      · exact kN _ (.head _)
      · exact kN _ (.tail _ (.tail _ hp))
    · intro p hp
      have : @LT.lt Nat _ p.1 L' := l1 p hp
      have := lW.1
      omega
end Mine
end
section
namespace Mine
theorem reorder1 {h₀ h : Heap} {L : Addr} {x y a1 a2 a3 a4 W : Addr × Obj} {E : List (Addr × Obj)} (N : News h₀ L h (W :: (E ++ [x, y, a1, a2, a3, a4]))) : News h₀ L h (a1 :: a2 :: a3 :: a4 :: y :: W :: E) := by
  intro p hp
  refine N p ?_
  simp only [List.mem_cons, List.mem_append, List.not_mem_nil, or_false] at hp ⊢
  rcases hp with h | h | h | h | h | h | h <;> simp [h]
theorem apart1 {x y : Addr × Obj} {l1 l2 l3 l4 W : Addr} {p1 p2 p3 p4 oW : Obj} {WL : List WI} (h1 : ∀ p ∈ [x, y, (l1, p1), (l2, p2), (l3, p3), (l4, p4)], @Ne Nat p.1 W) (h2 : ∀ z ∈ WL, ∀ p ∈ [x, y, (l1, p1), (l2, p2), (l3, p3), (l4, p4)], @Ne Nat p.1 z.a) :
    ∀ p ∈ (W, oW) :: entsOf WL, @Ne Nat p.1 l1 ∧ @Ne Nat p.1 l2 ∧ @Ne Nat p.1 l3 ∧ @Ne Nat p.1 l4 := by
  intro p hp
  rcases List.mem_cons.mp hp with rfl | hp
  · exact ⟨Ne.symm (h1 (l1, p1) (by simp)), Ne.symm (h1 (l2, p2) (by simp)), Ne.symm (h1 (l3, p3) (by simp)), Ne.symm (h1 (l4, p4) (by simp))⟩
  · obtain ⟨z, hz, rfl⟩ := List.mem_map.mp hp
    exact ⟨Ne.symm (h2 z hz (l1, p1) (by simp)), Ne.symm (h2 z hz (l2, p2) (by simp)), Ne.symm (h2 z hz (l3, p3) (by simp)), Ne.symm (h2 z hz (l4, p4) (by simp))⟩
def nz (x : Int) : Int := if x = 0 then 1 else x
theorem nz_bits {x : Int} {n : Nat} (h : Builtin.Int.intBits x ≤ n) (h1 : 1 ≤ n) : Builtin.Int.intBits (nz x) ≤ n := by
  unfold nz
  split
  · exact Nat.le_trans (by decide) h1
  · exact h
theorem fr_any {h₀ h : Heap} {L : Addr} {m : Str → Option Value} (ps : List (Str × Value)) (F : Fr h₀ L h m) (h1 : ∀ p ∈ ps, m p.1 = some p.2) : ∃ m0, Fr h₀ L h (kstB m0 ps) := ⟨m, fr_say ps F h1⟩
theorem reorder2 {h₀ h : Heap} {L : Addr} {K D x a1 a2 a3 a4 y : Addr × Obj} {base : List (Addr × Obj)} (N : News h₀ L h (K :: D :: x :: a1 :: a2 :: a3 :: a4 :: y :: base)) : News h₀ L h (K :: a1 :: a2 :: a3 :: a4 :: D :: base) := by
  intro p hp
  refine N p ?_
  simp only [List.mem_cons] at hp ⊢
  rcases hp with h | h | h | h | h | h | h <;> simp [h]
theorem all_lt {d : Addr} : ∀ {l : List (Addr × Obj)}, AllLt d l → ∀ p ∈ l, @LT.lt Nat _ p.1 d
  | [], _, _, h => nomatch h
  | _ :: _, x, p, h => by
    rcases List.mem_cons.mp h with rfl | h
    · exact x.1
    · exact all_lt x.2 p h
theorem cons_ne {D K : Addr} {o : Obj} {base : List (Addr × Obj)} (h : @Ne Nat D K) (hb : ∀ p ∈ base, @Ne Nat p.1 K) : ∀ p ∈ (D, o) :: base, @Ne Nat p.1 K := by
  intro p hp
  rcases List.mem_cons.mp hp with rfl | hp
  · exact h
  · exact hb p hp
theorem c4_bits {x : Int} {n : Nat} (h : Builtin.Int.intBits x ≤ 1048576 + n) (hn : ¬ ((63 : Int) < (n : Int))) : Builtin.Int.intBits (nz x) ≤ BB := nz_bits (Nat.le_trans h (by show _ ≤ 2097152; omega)) (by decide)
def WordsIn (x : List Int) : Prop := x ∈ words14
theorem word_in (a : Int) : wordOf a ∈ words14 := by
  have : ∀ r : Nat, r < 24 → bitsOf r ∈ words14 := by decide +kernel
  refine this _ ?_
  have := Int.fmod_lt_of_pos a (b := 24) (by decide)
  omega
end Mine
end
section
namespace Mine
section
variable {prog : Program} {w : World} {A : Around} {h₀ : Heap} {L : Addr} {m : Str → Option Value} {env : Env} {ct elt : PySem.Expr} {x : Str} {scope : Scope} {cl : List (Str × Addr)} {s : Shared} {S : List (Addr × Obj) → Prop} {Fin : List Value → List (Addr × Obj) → Prop} {news : List (Addr × Obj)} {P : Nat → Value → Prop}
/-- a block's turns with a test, by what holds between them -/
theorem rest_genT {n : Nat} (J : Nat → List Value → List (Addr × Obj) → Prop) (h0 : J 0 [] news)
    (turn : ∀ i v ys nw I oI C oC D m₂ h tk (E' : Value → Shared → Prop), i < n → P i v → J i ys nw → LCg.NsObj oC m₂ → m₂ x = some v → Fr h₀ L h m → News h₀ L h ((I, oI) :: (C, oC) :: (D, LCg.lst ys) :: nw) → LCg.Off3 I C D nw → ((@Ne Nat I C) ∧ (@Ne Nat I D) ∧ (@Ne Nat C D)) →
      wpAny (model prog w) A (isTrue ct (compEnvC scope cl C env) (eval ct (compEnvC scope cl C env))) (fun ok s' => if ok = true then
        wpAny (model prog w) A (eval elt (compEnvC scope cl C env)) (LCg.CompEnd h₀ L m { s with heap := h, toks := tk } I oI C oC D (LCg.lst ys) S (fun y news' => J (i + 1) (ys ++ [y]) news')) E' s'
        else LCg.CompEnd h₀ L m { s with heap := h, toks := tk } I oI C oC D (LCg.lst ys) S (fun _ news' => J (i + 1) ys news') Value.none s') E' { s with heap := h, toks := tk })
    (fin : ∀ ys nw, J n ys nw → Fin ys nw) : LCt.CompRestT prog w A h₀ L m env ct elt x scope cl s S P Fin n 0 [] news := by
  have key : ∀ (j i : Nat) (ys : List Value) (nw : List (Addr × Obj)), i + j = n → J i ys nw → LCt.CompRestT prog w A h₀ L m env ct elt x scope cl s S P Fin j i ys nw := by
    intro j
    induction j with
    | zero =>
      intro i ys nw hi hy
      have e : i = n := by omega
      subst e
      exact LCt.CompRestT.zero (fin ys nw hy)
    | succ j ih =>
      intro i ys nw hi hy
      refine LCt.CompRestT.succ ?_
      intro v I oI C oC D m₂ h tk E' hv hC hx F N off ne
      refine wpAny_mono (turn i v ys nw I oI C oC D m₂ h tk E' (by omega) hv hy hC hx F N off ne) (fun ok s₂ hq => ?_) fun _ _ e => e
      cases ok with
      | true =>
        rw [if_pos rfl] at hq ⊢
        refine wpAny_mono hq (fun y s₃ hq => ?_) fun _ _ e => e
        obtain ⟨h', tk', nw', e, F', N', off', hS, hj⟩ := hq
        exact ⟨h', tk', nw', e, F', N', off', hS, ih (i + 1) _ _ (by omega) hj⟩
      | false =>
        rw [if_neg Bool.false_ne_true] at hq ⊢
        obtain ⟨h', tk', nw', e, F', N', off', hS, hj⟩ := hq
        exact ⟨h', tk', nw', e, F', N', off', hS, ih (i + 1) _ _ (by omega) hj⟩
  exact key n 0 [] news (by omega) h0
end
section
variable {prog : Program} {w : World} {A : Around} {E : Value → Shared → Prop} {s : Shared} {h₀ : Heap} {L a : Addr} {news : List (Addr × Obj)} {Q : Value → Shared → Prop}
theorem eq_nil {b : Addr} {l : List WI} {n n' : Nat} (N : News h₀ L s.heap news) (ha : (a, listOf (refsOf l).toArray n) ∈ news) (hl : ∀ x ∈ l, x.ent ∈ news) (g : ∀ x ∈ l, IntsAre x.vs x.ns)
    (hb : (b, listOf #[] n') ∈ news) (hu : A.units + 64 < cLine) (h : Q (.bool (decide (l = []))) s) : wpAny (model prog w) A (compareOp .Eq (.ref a) (.ref b)) Q E s := by
  obtain ⟨as, r⟩ := reads_wl (h := s.heap) (l := l) (fun x hx => (N _ (hl x hx)).1) g
  have r2 : Reads s.heap (.ref b) (.list []) (b :: []) := reads_list_at (N _ hb).1 rfl rfl .nil
  have dl : ∀ l : List WI, PyData.depthAll (datsOf l) ≤ 1 := by
    intro l
    induction l with
    | nil => simp [PyData.depthAll]
    | cons x t ih =>
      have : PyData.depth (.list (x.ns.map PyData.int)) = 1 := by simp [PyData.depth, dep_ints]
      simp only [List.map_cons, PyData.depthAll, this]
      have := ih
      simp only [datsOf] at this
      omega
  refine eq_dataH (reads_list_at (N _ ha).1 rfl rfl r) r2 ?_ ?_ hu ?_
  · have := dl l
    have h2 : (PyData.list (datsOf l)).depth ≤ 64 := by simp only [PyData.depth]; omega
    have h3 : (PyData.list (datsOf l)).canLay0 = true := by simp only [PyData.canLay0]; exact lay_dats l
    unfold SeqAt.shaped
    rw [h3, decide_eq_true h2]; rfl
  · simp [SeqAt.shaped, PyData.canLay0, PyData.canLayAll0, PyData.depth, PyData.depthAll]
  · have : PyData.eqv (.list (datsOf l)) (.list []) = decide (l = []) := by
      cases l with
      | nil => simp [PyData.eqv, PyData.eqvAll]
      | cons x t => simp [PyData.eqv, PyData.eqvAll]
    rw [this]; exact h
end
theorem reorder3 {h₀ h : Heap} {L : Addr} {K a1 a2 a3 a4 : Addr × Obj} {base : List (Addr × Obj)} (N : News h₀ L h (K :: a1 :: a2 :: a3 :: a4 :: base)) : News h₀ L h (a1 :: a2 :: a3 :: a4 :: K :: base) := by
  intro p hp
  refine N p ?_
  simp only [List.mem_cons] at hp ⊢
  rcases hp with h | h | h | h | h | h <;> simp [h]
theorem cons2_ne {a b x : Addr} {o o2 : Obj} {base : List (Addr × Obj)} (ha : @Ne Nat a x) (hb : @Ne Nat b x) (h : ∀ p ∈ base, @Ne Nat p.1 x) : ∀ p ∈ (a, o) :: (b, o2) :: base, @Ne Nat p.1 x := cons_ne ha (cons_ne hb h)
theorem base3_ne {L K : Nat} {o o2 : Obj} {base : List (Addr × Obj)} {R : Prop} (hK : L + 1 + 1 + 1 + 1 < K ∧ L + 1 + 1 + 1 < K ∧ L + 1 + 1 < K ∧ R) (h4 : ∀ p ∈ base, @Ne Nat p.1 (L + 1 + 1 + 1 + 1)) (h3 : ∀ p ∈ base, @Ne Nat p.1 (L + 1 + 1 + 1)) (h2 : ∀ p ∈ base, @Ne Nat p.1 (L + 1 + 1)) :
    (∀ p ∈ ((L + 1, o) :: (K, o2) :: base : List (Addr × Obj)), @Ne Nat p.1 (L + 1 + 1 + 1 + 1)) ∧ (∀ p ∈ ((L + 1, o) :: (K, o2) :: base : List (Addr × Obj)), @Ne Nat p.1 (L + 1 + 1 + 1)) ∧ (∀ p ∈ ((L + 1, o) :: (K, o2) :: base : List (Addr × Obj)), @Ne Nat p.1 (L + 1 + 1)) :=
  ⟨cons2_ne (by omega) (by omega) h4, cons2_ne (by omega) (by omega) h3, cons2_ne (by omega) (by omega) h2⟩
theorem pack3 {h₀ h : Heap} {Lf : Addr} {L K : Nat} {o oK o1 o2 o3 : Obj} {base : List (Addr × Obj)} {R : Prop} (N : News h₀ Lf h ((L + 1 + 1 + 1 + 1, o1) :: (L + 1 + 1 + 1, o2) :: (L + 1 + 1, o3) :: (L + 1, o) :: (K, oK) :: base))
    (hK : L + 1 + 1 + 1 + 1 < K ∧ L + 1 + 1 + 1 < K ∧ L + 1 + 1 < K ∧ R) (h4 : ∀ p ∈ base, @Ne Nat p.1 (L + 1 + 1 + 1 + 1)) (h3 : ∀ p ∈ base, @Ne Nat p.1 (L + 1 + 1 + 1)) (h2 : ∀ p ∈ base, @Ne Nat p.1 (L + 1 + 1)) :
    ∃ base3, News h₀ Lf h ((L + 1 + 1 + 1 + 1, o1) :: (L + 1 + 1 + 1, o2) :: (L + 1 + 1, o3) :: base3) ∧ ((L + 1, o) : Addr × Obj) ∈ base3 ∧ ((K, oK) : Addr × Obj) ∈ base3 ∧ (∀ p ∈ base, p ∈ base3) ∧
      (∀ p ∈ base3, @Ne Nat p.1 (L + 1 + 1 + 1 + 1)) ∧ (∀ p ∈ base3, @Ne Nat p.1 (L + 1 + 1 + 1)) ∧ (∀ p ∈ base3, @Ne Nat p.1 (L + 1 + 1)) :=
  ⟨(L + 1, o) :: (K, oK) :: base, N, .head _, .tail _ (.head _), fun p hp => .tail _ (.tail _ hp), base3_ne hK h4 h3 h2⟩
theorem words_14 {wa wb : List Int} (ha : wa ∈ words14) (hb : wb ∈ words14) : ∀ w ∈ wordsOf wa wb, w ∈ words14 := by
  intro w hw
  unfold wordsOf at hw
  split at hw
  · rw [List.mem_singleton.mp hw]; exact ha
  · rcases List.mem_cons.mp hw with rfl | hw
    · exact ha
    · rw [List.mem_singleton.mp hw]; exact hb
theorem ne5 {it a1 a2 a3 a4 a5 : Addr} {p1 p2 p3 p4 p5 : Obj} {base : List (Addr × Obj)} (h : ∀ p ∈ (a1, p1) :: (a2, p2) :: (a3, p3) :: (a4, p4) :: (a5, p5) :: base, p.1 ≠ it) :
    @Ne Nat a1 it ∧ @Ne Nat a2 it ∧ @Ne Nat a3 it ∧ @Ne Nat a4 it ∧ @Ne Nat a5 it ∧ ∀ p ∈ base, @Ne Nat p.1 it :=
  ⟨h _ (.head _), h _ (.tail _ (.head _)), h _ (.tail _ (.tail _ (.head _))), h _ (.tail _ (.tail _ (.tail _ (.head _)))), h _ (.tail _ (.tail _ (.tail _ (.tail _ (.head _))))), fun p hp => h p (.tail _ (.tail _ (.tail _ (.tail _ (.tail _ hp)))))⟩
end Mine
end
section
namespace Mine
/-- a list within another -/
def inL : List Nat → List Nat → Bool
  | [], y => y.isPrefixOf []
  | c :: a, y => y.isPrefixOf (c :: a) || inL a y
theorem inL_iff (y : List Nat) : ∀ a, inL a y = true ↔ ∃ i, (a.drop i).take y.length = y
  | [] => by
    simp only [inL, List.isPrefixOf_iff_prefix, List.drop_nil, List.take_nil]
    constructor
    · intro h; exact ⟨0, (List.prefix_nil.mp h).symm⟩
    · rintro ⟨_, h⟩; rw [← h]; exact List.prefix_refl _
  | c :: a => by
    simp only [inL, Bool.or_eq_true, List.isPrefixOf_iff_prefix, inL_iff y a]
    constructor
    · rintro (h | ⟨i, h⟩)
      · exact ⟨0, (List.prefix_iff_eq_take.mp h).symm⟩
      · exact ⟨i + 1, h⟩
    · rintro ⟨i, h⟩
      cases i with
      | zero => exact .inl (List.prefix_iff_eq_take.mpr h.symm)
      | succ i => exact .inr ⟨i, h⟩
def sufL (a y : List Nat) : Bool := decide (y.length ≤ a.length) && a.drop (a.length - y.length) == y
theorem rfind_in {x y : Str} {l k : List Nat} (hx : x.cps.toList = l) (hy : y.cps.toList = k) (hl : l.head? = some 120) (hk : k.head? = some 46) :
    (decide (Txt.rfind x y ≠ -1) && decide (Txt.rfind x y ≠ 0)) = inL l k := by
  have hyl : y.length = k.length := by rw [← hy]; rfl
  have hxl : x.length = l.length := by rw [← hx]; rfl
  have hk0 : k ≠ [] := by rintro rfl; cases hk
  have at_iff : ∀ i, Builtin.Str.subAt x y i = true ↔ (l.drop i).take k.length = k := by
    intro i
    rw [PySem.StrLaws.subAt_eq, hx, hy, hyl]
    simp
  have at0 : Builtin.Str.subAt x y 0 = true → False := by
    intro h
    have h := (at_iff 0).mp h
    cases k with
    | nil => exact hk0 rfl
    | cons c k' =>
      cases l with
      | nil => cases hl
      | cons d l' =>
        simp only [List.head?_cons, Option.some.injEq] at hl hk
        subst hl hk
        simp at h
  rcases PySem.StrLaws.last_spec x y with ⟨e, h⟩ | ⟨i, e, h, _⟩
  · have er : Txt.rfind x y = -1 := by unfold Txt.rfind; rw [e]
    rw [er]
    have : inL l k = false := by
      cases hb : inL l k with
      | false => rfl
      | true =>
        obtain ⟨i, hi⟩ := (inL_iff k l).mp hb
        exfalso
        refine h i ⟨?_, (at_iff i).mpr hi⟩
        have := congrArg List.length hi
        rw [List.length_take, List.length_drop] at this
        have : 0 < k.length := List.length_pos_iff.mpr hk0
        omega
    rw [this]; rfl
  · have er : Txt.rfind x y = (i : Int) := by unfold Txt.rfind; rw [e]
    have hi0 : i ≠ 0 := by
      rintro rfl
      exact at0 h.2
    have : inL l k = true := (inL_iff k l).mpr ⟨i, (at_iff i).mp h.2⟩
    rw [er, this]
    simp only [Bool.and_eq_true, decide_eq_true_eq]
    omega
abbrev hostL (x : Str) : Str := Str.ofString "x." ++ x ++ Str.ofString ".local"
abbrev zone (x : Str) : Str := Str.ofString "." ++ x
def chkA (a : Str) (l : List Nat) : Bool := asc a && decide (a.cps.size ≤ 1000) && (loS a).cps.toList == l && hdnF (loS a) && !ipF (loS a) && l.head? == some 120
def chkB (b : Str) (l : List Nat) : Bool := asc b && decide (b.cps.size ≤ 1000) && (loS b).cps.toList == l && decide ((Txt.slice (loS b) (some 1) none).cps.size ≤ 1000) && ipChk (Txt.slice (loS b) (some 1) none) && hdnF (Txt.slice (loS b) (some 1) none) && Txt.startswith (loS b) (Str.ofString ".") && l.head? == some 46
def chkC (b : Str) (l : List Nat) : Bool := asc b && decide (b.cps.size ≤ 1000) && (loS b).cps.toList == l && !ipF (loS b) && Txt.startswith (loS b) (Str.ofString ".")
theorem dm_of {a b : Str} {l k : List Nat} (ha : chkA a l = true) (hb : chkB b k = true) : DmIs a b (inL l k) := by
  unfold chkA at ha
  unfold chkB at hb
  simp only [Bool.and_eq_true, decide_eq_true_eq, beq_iff_eq, Bool.not_eq_true'] at ha hb
  obtain ⟨⟨⟨⟨⟨a1, a2⟩, a3⟩, a4⟩, a5⟩, a6⟩ := ha
  obtain ⟨⟨⟨⟨⟨⟨⟨b1, b2⟩, b3⟩, b4⟩, b5⟩, b6⟩, b7⟩, b8⟩ := hb
  have ea := lower_eq a1
  have eb := lower_eq b1
  refine ⟨⟨a2, b2, by rw [ea]; exact ipOk_of (by unfold ipChk; rw [a5]; rfl), by rw [eb]; exact Nat.le_trans b4 (by decide), by rw [eb]; exact ipOk_of b5⟩, ?_⟩
  have hne : (loS a == loS b) = false := by
    rw [beq_eq_false_iff_ne]
    intro e
    rw [e, b3] at a3
    rw [a3, a6] at b8
    cases b8
  have hr := rfind_in a3 b3 a6 b8
  unfold dmF
  rw [ea, eb, hne, a4, b7, b6, Bool.false_or, Bool.true_and, Bool.and_true, Bool.and_true, hr]
theorem ud_of {a b : Str} {l k : List Nat} (ha : chkA a l = true) (hb : chkC b k = true) : UdIs a b (sufL l k) := by
  unfold chkA at ha
  unfold chkC at hb
  simp only [Bool.and_eq_true, decide_eq_true_eq, beq_iff_eq, Bool.not_eq_true'] at ha hb
  obtain ⟨⟨⟨⟨⟨a1, a2⟩, a3⟩, a4⟩, a5⟩, a6⟩ := ha
  obtain ⟨⟨⟨⟨b1, b2⟩, b3⟩, b4⟩, b5⟩ := hb
  have ea := lower_eq a1
  have eb := lower_eq b1
  refine ⟨⟨a2, b2, by rw [ea]; exact ipOk_of (by unfold ipChk; rw [a5]; rfl), by rw [eb]; exact ipOk_of (by unfold ipChk; rw [b4]; rfl)⟩, ?_⟩
  have hxl : (loS a).length = l.length := by rw [← a3]; rfl
  have hyl : (loS b).length = k.length := by rw [← b3]; rfl
  have he : Txt.endswith (loS a) (loS b) = sufL l k := by
    unfold Txt.endswith sufL
    rw [PySem.StrLaws.subAt_eq, a3, b3, hxl, hyl, Nat.zero_add]
    by_cases h : k.length ≤ l.length
    · simp only [h, decide_true, Bool.true_and]
      rw [List.take_of_length_le (by rw [List.length_drop]; omega)]
    · simp [h]
  unfold udmF
  rw [ea, eb, a5, b4, b5, he]
  simp
/-- the letters of a host's end, of a zone -/
def laB : List Int → List Nat
  | [] => [46, 108, 111, 99, 97, 108]
  | n :: r => 46 :: ((if n = 0 then [97] else [98, 97]) ++ laB r)
def zL : List Int → List Nat
  | [] => []
  | n :: r => 46 :: ((if n = 0 then [97] else [98, 97]) ++ zL r)
theorem pA : (texts62.all fun t => asc (hostL (textF t)) && chkA (upS (hostL (textF t))) (120 :: laB t)) = true := by decide +kernel
theorem pA' : (words14.all fun t => chkA (hostL (textF t)) (120 :: laB t)) = true := by decide +kernel
theorem pB : (words14.all fun w => chkB (zone (textF w)) (zL w) && chkC (zone (textF w) ++ Str.ofString ".local") (laB w)) = true := by decide +kernel
theorem pI : (texts62.all fun t => words14.all fun w => inL (120 :: laB t) (zL w) == infx w t && sufL (120 :: laB t) (laB w) == sufx w t) = true := by decide +kernel
theorem t_of_w : (words14.all fun t => texts62.contains t) = true := by decide +kernel
theorem mem_t {t : List Int} (h : t ∈ words14) : t ∈ texts62 := by simpa using List.all_eq_true.mp t_of_w t h
theorem hostF_eq {t : List Int} (h : t ∈ texts62) : hostF (textF t) = upS (hostL (textF t)) ∧ chkA (upS (hostL (textF t))) (120 :: laB t) = true := by
  have := List.all_eq_true.mp pA t h
  rw [Bool.and_eq_true] at this
  exact ⟨upper_eq this.1, this.2⟩
theorem pair_of {t w : List Int} (ht : t ∈ texts62) (hw : w ∈ words14) : inL (120 :: laB t) (zL w) = infx w t ∧ sufL (120 :: laB t) (laB w) = sufx w t := by
  have := List.all_eq_true.mp (List.all_eq_true.mp pI t ht) w hw
  simpa using this
theorem dm_low {t w : List Int} (ht : t ∈ words14) (hw : w ∈ words14) : DmIs (hostL (textF t)) (zone (textF w)) (infx w t) := by
  rw [← (pair_of (mem_t ht) hw).1]
  exact dm_of (List.all_eq_true.mp pA' t ht) (Bool.and_eq_true_iff.mp (List.all_eq_true.mp pB w hw)).1
theorem dm_up {t w : List Int} (ht : t ∈ texts62) (hw : w ∈ words14) : DmIs (hostF (textF t)) (zone (textF w)) (infx w t) := by
  rw [← (pair_of ht hw).1, (hostF_eq ht).1]
  exact dm_of (hostF_eq ht).2 (Bool.and_eq_true_iff.mp (List.all_eq_true.mp pB w hw)).1
theorem ud_up {t w : List Int} (ht : t ∈ texts62) (hw : w ∈ words14) : UdIs (hostF (textF t)) (zone (textF w) ++ Str.ofString ".local") (sufx w t) := by
  rw [← (pair_of ht hw).2, (hostF_eq ht).1]
  exact ud_of (hostF_eq ht).2 (Bool.and_eq_true_iff.mp (List.all_eq_true.mp pB w hw)).2
theorem t_01 : (texts62.all fun t => t.all fun n => n == 0 || n == 1) = true := by decide +kernel
theorem t_len : (texts62.all fun t => decide (t.length ≤ 5) && decide ((textF t).length ≤ 20)) = true := by decide +kernel
theorem w_len : (words14.all fun t => decide (t.length ≤ 3)) = true := by decide +kernel
theorem tin01 {t : List Int} (h : t ∈ texts62) : ∀ n ∈ t, n = 0 ∨ n = 1 := by
  intro n hn
  have := List.all_eq_true.mp (List.all_eq_true.mp t_01 t h) n hn
  simpa using this
theorem tinlen {t : List Int} (h : t ∈ texts62) : t.length ≤ 5 ∧ (textF t).length ≤ 20 := by
  have := List.all_eq_true.mp t_len t h
  simpa using this
theorem in01 {t : List Int} (h : t ∈ words14) : ∀ n ∈ t, n = 0 ∨ n = 1 := tin01 (mem_t h)
theorem inlen {t : List Int} (h : t ∈ words14) : t.length ≤ 3 ∧ (textF t).length ≤ 20 := by
  have := List.all_eq_true.mp w_len t h
  exact ⟨by simpa using this, (tinlen (mem_t h)).2⟩
end Mine
end
section
namespace Mine
theorem strv_snoc (l : List (Str × Tok)) (x : Str) (t : Tok) : strValues l ++ [.str x t] = strValues (l ++ [(x, t)]) := by
  simp [strValues]
theorem map_take_snoc {α β : Type} {f : α → β} {l : List α} {j : Nat} {o : α} (h : l[j]? = some o) : (l.take (j + 1)).map f = (l.take j).map f ++ [f o] := by
  rw [List.take_add_one, h, List.map_append]
  rfl
theorem pack4 {h₀ h : Heap} {Lf : Addr} {L S R T0 E0 Z : Nat} {os oR oT oE oZ o1 o2 o3 : Obj} {base : List (Addr × Obj)} (N : News h₀ Lf h ((S, os) :: (R, oR) :: (T0, oT) :: (E0, oE) :: (Z, oZ) :: (L + 1 + 1 + 1 + 1, o1) :: (L + 1 + 1 + 1, o2) :: (L + 1 + 1, o3) :: base))
    (hS : R < S ∧ T0 < S ∧ E0 < S ∧ Z < S ∧ L + 1 + 1 + 1 + 1 < S ∧ L + 1 + 1 + 1 < S ∧ L + 1 + 1 < S ∧ AllLt S base) (z2 : @Ne Nat (L + 1 + 1 + 1) Z) (z3 : @Ne Nat (L + 1 + 1) Z)
    (h3 : ∀ p ∈ base, @Ne Nat p.1 (L + 1 + 1 + 1)) (h2 : ∀ p ∈ base, @Ne Nat p.1 (L + 1 + 1))
    (hR : T0 < R ∧ E0 < R ∧ Z < R ∧ L + 1 + 1 + 1 + 1 < R ∧ L + 1 + 1 + 1 < R ∧ L + 1 + 1 < R ∧ AllLt R base)
    (hT : E0 < T0 ∧ Z < T0 ∧ L + 1 + 1 + 1 + 1 < T0 ∧ L + 1 + 1 + 1 < T0 ∧ L + 1 + 1 < T0 ∧ AllLt T0 base)
    (hE : Z < E0 ∧ L + 1 + 1 + 1 + 1 < E0 ∧ L + 1 + 1 + 1 < E0 ∧ L + 1 + 1 < E0 ∧ AllLt E0 base) :
    ∃ (junk b4 : List (Addr × Obj)), News h₀ Lf h ((S, os) :: (L + 1 + 1 + 1, o2) :: (L + 1 + 1, o3) :: (junk ++ b4)) ∧ ((R, oR) : Addr × Obj) ∈ junk ∧ ((T0, oT) : Addr × Obj) ∈ junk ∧ ((E0, oE) : Addr × Obj) ∈ junk ∧
      ((Z, oZ) : Addr × Obj) ∈ b4 ∧ ((L + 1 + 1 + 1 + 1, o1) : Addr × Obj) ∈ b4 ∧ (∀ p ∈ base, p ∈ b4) ∧ (∀ p ∈ junk ++ b4, @Ne Nat p.1 S ∧ @Ne Nat p.1 (L + 1 + 1 + 1) ∧ @Ne Nat p.1 (L + 1 + 1)) := by
  refine ⟨[(R, oR), (T0, oT), (E0, oE)], (Z, oZ) :: (L + 1 + 1 + 1 + 1, o1) :: base, ?_, .head _, .tail _ (.head _), .tail _ (.tail _ (.head _)), .head _, .tail _ (.head _), fun p hp => .tail _ (.tail _ hp), ?_⟩
  · intro p hp
    refine N p ?_
    simp only [List.mem_cons, List.mem_append, List.not_mem_nil, or_false] at hp ⊢
    rcases hp with h | h | h | (h | h | h) | h | h | h <;> simp [h]
  · intro p hp
    simp only [List.mem_cons, List.mem_append, List.not_mem_nil, or_false] at hp
    rcases hp with (rfl | rfl | rfl) | rfl | rfl | h
    · dsimp only; omega
    · dsimp only; omega
    · dsimp only; omega
    · dsimp only; omega
    · dsimp only; omega
    · exact ⟨Nat.ne_of_lt (all_lt hS.2.2.2.2.2.2.2 p h), h3 p h, h2 p h⟩
abbrev zero6 : List Int := [0, 0, 0, 0, 0, 0]
/-- the rows that the call has made -/
def RowsAt (rows : List WI) (led : List (Addr × Obj)) : Prop := (∀ r ∈ rows, IntsAre r.vs r.ns) ∧ (rows.map (·.a)).Nodup ∧ ∀ r ∈ rows, ∀ p ∈ led, @Ne Nat p.1 r.a
def RowsJ (led : List (Addr × Obj)) (i : Nat) (ys : List Value) (nw : List (Addr × Obj)) : Prop := ∃ rows : List WI, rows.length = i ∧ ys = refsOf rows ∧ nw = entsOf rows ++ led ∧ RowsAt rows led ∧ ∀ r ∈ rows, r.ns = zero6
theorem rows_end {I C D' Li Dn : Addr} {oI oC oD oL : Obj} {led : List (Addr × Obj)} {rows : List WI} (off : LCg.Off3 I C D' (entsOf rows ++ led)) (lN : ∀ p ∈ (Li, oL) :: (I, oI) :: (C, oC) :: (D', oD) :: (entsOf rows ++ led), @LT.lt Nat _ p.1 Dn) (h2 : RowsAt rows led)
    (h3 : ∀ r ∈ rows, r.ns = zero6) (new : WI) (ha : new.a = Dn) (hi : IntsAre new.vs new.ns) (hz : new.ns = zero6) :
    (∀ p ∈ (I, oI) :: (C, oC) :: (D', oD) :: (entsOf (rows ++ [new]) ++ led), p ∈ new.ent :: (Li, oL) :: (I, oI) :: (C, oC) :: (D', oD) :: (entsOf rows ++ led)) ∧ LCg.Off3 I C D' (entsOf (rows ++ [new]) ++ led) ∧ RowsJ led (rows.length + 1) (refsOf rows ++ [.ref new.a]) (entsOf (rows ++ [new]) ++ led) := by
  subst ha
  have lI : @LT.lt Nat _ I new.a := lN _ (.tail _ (.head _))
  have lC : @LT.lt Nat _ C new.a := lN _ (.tail _ (.tail _ (.head _)))
  have lD : @LT.lt Nat _ D' new.a := lN _ (.tail _ (.tail _ (.tail _ (.head _))))
  have lr : ∀ p ∈ entsOf rows ++ led, @LT.lt Nat _ p.1 new.a := fun p hp => lN p (.tail _ (.tail _ (.tail _ (.tail _ hp))))
  refine ⟨?_, LCg.Off3.of ?_, rows ++ [new], by simp, by simp [refsOf], rfl, ⟨?_, ?_, ?_⟩, ?_⟩
  · intro p hp
    simp only [entsOf, List.map_append, List.map_cons, List.map_nil, List.mem_cons, List.mem_append, List.not_mem_nil, or_false] at hp ⊢
    rcases hp with h | h | h | (h | h) | h <;> simp [h]
  · intro p hp
    simp only [entsOf, List.map_append, List.map_cons, List.map_nil, List.mem_cons, List.mem_append, List.not_mem_nil, or_false] at hp
    rcases hp with (h | rfl) | h
    · exact LCg.Off3.mem off p (List.mem_append_left _ h)
    · exact ⟨Nat.ne_of_gt lI, Nat.ne_of_gt lC, Nat.ne_of_gt lD⟩
    · exact LCg.Off3.mem off p (List.mem_append_right _ h)
  · intro r hr
    rcases List.mem_append.mp hr with hr | hr
    · exact h2.1 r hr
    · rw [List.mem_singleton.mp hr]; exact hi
  · rw [List.map_append, List.nodup_append]
    refine ⟨h2.2.1, by simp, ?_⟩
    intro a ha b hb
    rw [List.mem_singleton.mp hb]
    obtain ⟨r, hr, rfl⟩ := List.mem_map.mp ha
    exact Nat.ne_of_lt (lr r.ent (List.mem_append_left _ (List.mem_map_of_mem hr)))
  · intro r hr p hp
    rcases List.mem_append.mp hr with hr | hr
    · exact h2.2.2 r hr p hp
    · rw [List.mem_singleton.mp hr]; exact Nat.ne_of_lt (lr p (List.mem_append_right _ hp))
  · intro r hr
    rcases List.mem_append.mp hr with hr | hr
    · exact h3 r hr
    · rw [List.mem_singleton.mp hr]; exact hz
theorem RowsJ.zero (led : List (Addr × Obj)) : RowsJ led 0 [] led := ⟨[], rfl, rfl, rfl, ⟨fun _ h => (nomatch h), .nil, fun _ h => (nomatch h)⟩, fun _ h => (nomatch h)⟩
/-- what a ledger keeps apart from the objects that turn -/
def Apt (M : List Nat) (l : List (Addr × Obj)) : Prop := ∀ p ∈ l, ∀ a ∈ M, @Ne Nat p.1 a
theorem pack5 {h₀ h : Heap} {Lf : Addr} {L S Ea : Nat} {os o2 o3 oEa : Obj} {rows : List WI} {junk b4 : List (Addr × Obj)} (N : News h₀ Lf h ((Ea, oEa) :: (entsOf rows ++ (S, os) :: (L + 1 + 1 + 1, o2) :: (L + 1 + 1, o3) :: (junk ++ b4))))
    (hE : LCg.Off1 Ea (entsOf rows ++ (S, os) :: (L + 1 + 1 + 1, o2) :: (L + 1 + 1, o3) :: (junk ++ b4))) (hr : RowsAt rows ((S, os) :: (L + 1 + 1 + 1, o2) :: (L + 1 + 1, o3) :: (junk ++ b4)))
    (hap : ∀ p ∈ junk ++ b4, @Ne Nat p.1 S ∧ @Ne Nat p.1 (L + 1 + 1 + 1) ∧ @Ne Nat p.1 (L + 1 + 1)) (hS : L + 1 + 1 + 1 + 1 < S) :
    ∃ b5 : List (Addr × Obj), News h₀ Lf h ((S, os) :: (L + 1 + 1 + 1, o2) :: (L + 1 + 1, o3) :: (entsOf rows ++ (junk ++ b5))) ∧ ((Ea, oEa) : Addr × Obj) ∈ b5 ∧ (∀ p ∈ b4, p ∈ b5) ∧
      Apt (S :: (L + 1 + 1 + 1) :: (L + 1 + 1) :: rows.map (·.a)) (junk ++ b5) ∧ (S :: (L + 1 + 1 + 1) :: (L + 1 + 1) :: rows.map (·.a)).Nodup := by
  have hm := off1_mem hE
  have mS := hm (S, os) (List.mem_append_right _ (.head _))
  have mh := hm (L + 1 + 1 + 1, o2) (List.mem_append_right _ (.tail _ (.head _)))
  have mw := hm (L + 1 + 1, o3) (List.mem_append_right _ (.tail _ (.tail _ (.head _))))
  refine ⟨(Ea, oEa) :: b4, ?_, .head _, fun p hp => .tail _ hp, ?_, ?_⟩
  · intro p hp
    refine N p ?_
    simp only [List.mem_cons, List.mem_append] at hp ⊢
    rcases hp with h | h | h | h | h | h | h <;> simp [h]
  · intro p hp a ha
    have hp : p = (Ea, oEa) ∨ p ∈ junk ++ b4 := by
      rcases List.mem_append.mp hp with h | h
      · exact .inr (List.mem_append_left _ h)
      · rcases List.mem_cons.mp h with rfl | h
        · exact .inl rfl
        · exact .inr (List.mem_append_right _ h)
    rcases hp with rfl | hp
    · rcases List.mem_cons.mp ha with rfl | ha
      · exact Ne.symm mS
      rcases List.mem_cons.mp ha with rfl | ha
      · exact Ne.symm mh
      rcases List.mem_cons.mp ha with rfl | ha
      · exact Ne.symm mw
      · obtain ⟨r, hrr, rfl⟩ := List.mem_map.mp ha
        exact Ne.symm (hm r.ent (List.mem_append_left _ (List.mem_map_of_mem hrr)))
    · rcases List.mem_cons.mp ha with rfl | ha
      · exact (hap p hp).1
      rcases List.mem_cons.mp ha with rfl | ha
      · exact (hap p hp).2.1
      rcases List.mem_cons.mp ha with rfl | ha
      · exact (hap p hp).2.2
      · obtain ⟨r, hrr, rfl⟩ := List.mem_map.mp ha
        exact hr.2.2 r hrr p (.tail _ (.tail _ (.tail _ hp)))
  · have r1 : ∀ r ∈ rows, @Ne Nat S r.a := fun r h => hr.2.2 r h (S, os) (.head _)
    have r2 : ∀ r ∈ rows, @Ne Nat (L + 1 + 1 + 1) r.a := fun r h => hr.2.2 r h (L + 1 + 1 + 1, o2) (.tail _ (.head _))
    have r3 : ∀ r ∈ rows, @Ne Nat (L + 1 + 1) r.a := fun r h => hr.2.2 r h (L + 1 + 1, o3) (.tail _ (.tail _ (.head _)))
    refine List.nodup_cons.mpr ⟨?_, List.nodup_cons.mpr ⟨?_, List.nodup_cons.mpr ⟨?_, hr.2.1⟩⟩⟩
    · simp only [List.mem_cons, List.mem_map, not_or, not_exists, not_and]
      exact ⟨by omega, by omega, fun r h e => r1 r h e.symm⟩
    · simp only [List.mem_cons, List.mem_map, not_or, not_exists, not_and]
      exact ⟨by omega, fun r h e => r2 r h e.symm⟩
    · simp only [List.mem_map, not_exists, not_and]
      exact fun r h e => r3 r h e.symm
theorem refs_at {l : List WI} {j : Nat} {v : Value} (h : (refsOf l)[j]? = some v) : ∃ x, l[j]? = some x ∧ v = .ref x.a := by
  rw [List.getElem?_map] at h
  cases e : l[j]? with
  | none => rw [e] at h; cases h
  | some x => rw [e] at h; exact ⟨x, rfl, (Option.some.inj h).symm⟩
theorem drop_head {h₀ h : Heap} {L : Addr} {x : Addr × Obj} {base : List (Addr × Obj)} (N : News h₀ L h (x :: base)) : News h₀ L h base := fun p hp => N p (.tail _ hp)
theorem toMem {x : Addr × Obj} {l : List (Addr × Obj)} (h : x ∈ l) : List.Mem x l := h
end Mine
end
section
namespace Mine
/-- what a list of texts is worth -/
def sumT (v0 v1 : Int) (l : List (List Int)) : Int := (l.map (worthF v0 v1)).sum
def endW (K : List (List Int)) (v0 v1 : Int) (r k : Nat) : Int := sumT v0 v1 (endT K r k)
def freeOf (K : List (List Int)) (u : List Int) : Bool := K.all fun w => !infx w u
def rowP (K : List (List Int)) (v0 v1 : Int) (i : Nat) (cs : List (List Int)) (r : Nat) : List Int :=
  (List.range 6).map fun k => if k ≤ i then endW K v0 v1 r k else if k = i + 1 then sumT v0 v1 (cs.filter fun u => firstI K u == r) else 0
def rowA (K : List (List Int)) (v0 v1 : Int) (i r : Nat) : List Int := (List.range 6).map fun k => if k ≤ i then endW K v0 v1 r k else 0
def sumsA (K : List (List Int)) (v0 v1 : Int) (i : Nat) : List Int := (List.range (i + 1)).map fun k => sumT v0 v1 (runT K k)
def ext (t : List Int) : List (List Int) := [t ++ [0], t ++ [1]]
theorem runT_succ (K : List (List Int)) (i : Nat) : runT K (i + 1) = ((runT K i).flatMap ext).filter (freeOf K) := by
  rw [List.filter_flatMap]; rfl
theorem endT_succ (K : List (List Int)) (r i : Nat) : endT K r (i + 1) = ((runT K i).flatMap ext).filter fun u => firstI K u == r := by
  rw [List.filter_flatMap]; rfl
theorem rowP_nil (K : List (List Int)) (v0 v1 : Int) (i r : Nat) : rowP K v0 v1 i [] r = rowA K v0 v1 i r := by
  unfold rowP rowA
  refine List.map_congr_left fun k _ => ?_
  by_cases h : k ≤ i
  · simp [h]
  · simp [h, sumT]
theorem rowP_full (K : List (List Int)) (v0 v1 : Int) (i r : Nat) : rowP K v0 v1 i ((runT K i).flatMap ext) r = rowA K v0 v1 (i + 1) r := by
  unfold rowP rowA
  refine List.map_congr_left fun k _ => ?_
  by_cases h : k ≤ i
  · simp [h, Nat.le_succ_of_le h]
  · by_cases h' : k = i + 1
    · subst h'
      simp only [h, if_false, if_true, Nat.le_refl]
      unfold endW
      rw [endT_succ]
    · have : ¬ k ≤ i + 1 := by omega
      simp [h, h', this]
theorem rowA_zero (K : List (List Int)) (v0 v1 : Int) (r : Nat) : rowA K v0 v1 0 r = zero6 := by
  have e0 : endW K v0 v1 r 0 = 0 := rfl
  simp [rowA, List.range, List.range.loop, e0]
theorem sumsA_zero (K : List (List Int)) (v0 v1 : Int) : sumsA K v0 v1 0 = [1] := by
  have e0 : sumT v0 v1 (runT K 0) = 1 := rfl
  simp [sumsA, List.range, List.range.loop, e0]
theorem sumsA_succ (K : List (List Int)) (v0 v1 : Int) (i : Nat) : sumsA K v0 v1 (i + 1) = sumsA K v0 v1 i ++ [sumT v0 v1 (runT K (i + 1))] := by
  unfold sumsA
  rw [List.range_succ (n := i + 1), List.map_append]; rfl
theorem filter_snoc (p : List Int → Bool) (cs : List (List Int)) (u : List Int) : (cs ++ [u]).filter p = cs.filter p ++ (if p u = true then [u] else []) := by
  rw [List.filter_append]; congr 1; simp only [List.filter_cons, List.filter_nil]
theorem sumT_snoc (v0 v1 : Int) (l : List (List Int)) (u : List Int) : sumT v0 v1 (l ++ [u]) = sumT v0 v1 l + worthF v0 v1 u := by
  simp [sumT]
theorem worth_snoc (v0 v1 : Int) (t : List Int) (a : Int) : worthF v0 v1 (t ++ [a]) = worthF v0 v1 t * (if a = 0 then v0 else v1) := by
  unfold worthF; rw [List.foldl_append]; rfl
/-- a row when no text has come to its word -/
theorem rowP_same (K : List (List Int)) (v0 v1 : Int) (i : Nat) (cs : List (List Int)) (u : List Int) (r : Nat) (h : firstI K u ≠ r) : rowP K v0 v1 i (cs ++ [u]) r = rowP K v0 v1 i cs r := by
  unfold rowP
  have e : (cs ++ [u]).filter (fun u => firstI K u == r) = cs.filter fun u => firstI K u == r := by
    rw [filter_snoc, if_neg (by simpa using h), List.append_nil]
  rw [e]
theorem rowP_step (K : List (List Int)) (v0 v1 : Int) (i : Nat) (_hi : i < 5) (cs : List (List Int)) (u : List Int) (r : Nat) (h : firstI K u = r) :
    rowP K v0 v1 i (cs ++ [u]) r = (rowP K v0 v1 i cs r).set (i + 1) ((rowP K v0 v1 i cs r).getD (i + 1) 0 + worthF v0 v1 u) := by
  have hl : ∀ cs, (rowP K v0 v1 i cs r).length = 6 := fun cs => by simp [rowP]
  have hg : ∀ cs (k : Nat), k < 6 → (rowP K v0 v1 i cs r)[k]? = some (if k ≤ i then endW K v0 v1 r k else if k = i + 1 then sumT v0 v1 (cs.filter fun u => firstI K u == r) else 0) := by
    intro cs k hk
    simp [rowP, List.getElem?_map, List.getElem?_range hk]
  refine List.ext_getElem? fun k => ?_
  by_cases hk : k < 6
  · rw [hg _ k hk]
    by_cases h1 : k = i + 1
    · subst h1
      rw [List.getElem?_set_self (by rw [hl]; omega), List.getD_eq_getElem?_getD, hg _ _ hk]
      have : ¬ i + 1 ≤ i := by omega
      simp only [this, if_false, if_true, Option.getD_some]
      rw [filter_snoc, if_pos (by simpa using h), sumT_snoc]
    · rw [List.getElem?_set_ne (by omega), hg _ k hk]
      simp [h1]
  · rw [List.getElem?_eq_none (by rw [hl]; omega), List.getElem?_eq_none (by rw [List.length_set, hl]; omega)]
end Mine
end
section
namespace Mine
/-- a text that runs on, with its worth -/
structure TI where
  ta : Addr
  tx : WI
  wt : Int
  u : Tok
abbrev TI.tup (x : TI) : Addr × Obj := (x.ta, tupO [.ref x.tx.a, .int x.wt x.u])
abbrev tupsOf (l : List TI) : List Value := l.map fun x => .ref x.ta
structure TI.Ok (v0 v1 : Int) (junk : List (Addr × Obj)) (x : TI) : Prop where
  tup : x.tup ∈ junk
  ent : x.tx.ent ∈ junk
  hin : IntsAre x.tx.vs x.tx.ns
  wt : x.wt = worthF v0 v1 x.tx.ns
theorem TI.Ok.mono {v0 v1 : Int} {j j' : List (Addr × Obj)} {x : TI} (h : x.Ok v0 v1 j) (hs : ∀ p ∈ j, p ∈ j') : x.Ok v0 v1 j' := ⟨hs _ h.tup, hs _ h.ent, h.hin, h.wt⟩
/-- what the inner loops turn -/
structure DS where
  U : List TI
  nl : Nat
  oh : Obj
  rows : List WI
  junk : List (Addr × Obj)
abbrev DS.tail (d : DS) (base : List (Addr × Obj)) : List (Addr × Obj) := entsOf d.rows ++ (d.junk ++ base)
structure DOk (K : List (List Int)) (v0 v1 : Int) (RA M : List Nat) (junk₀ base : List (Addr × Obj)) (i : Nat) (cs : List (List Int)) (d : DS) : Prop where
  hU : ∀ x ∈ d.U, x.Ok v0 v1 d.junk
  hUn : d.U.map (·.tx.ns) = cs.filter (freeOf K)
  ra : d.rows.map (·.a) = RA
  ri : ∀ r ∈ d.rows, IntsAre r.vs r.ns
  rn : d.rows.map (·.ns) = (List.range K.length).map (rowP K v0 v1 i cs)
  oh : ∃ v, d.oh.data = .cell v
  ap : Apt M (d.junk ++ base)
  sub : ∀ p ∈ junk₀, p ∈ d.junk
theorem firstI_free {K : List (List Int)} {u : List Int} (h : freeOf K u = true) : firstI K u = K.length := by
  unfold firstI
  rw [List.findIdx_eq_length]
  intro w hw
  simpa using List.all_eq_true.mp h w hw
theorem firstI_lt {K : List (List Int)} {u : List Int} (h : freeOf K u = false) : firstI K u < K.length := by
  unfold firstI
  rw [List.findIdx_lt_length]
  obtain ⟨w, hw, h'⟩ := List.all_eq_false.mp h
  exact ⟨w, hw, by simpa using h'⟩
theorem dok_free {K : List (List Int)} {v0 v1 : Int} {RA M : List Nat} {junk₀ base : List (Addr × Obj)} {i : Nat} {cs : List (List Int)} {d : DS} (h : DOk K v0 v1 RA M junk₀ base i cs d) {u : List Int} (hf : freeOf K u = true) (x : TI) (hx : x.tx.ns = u) (hi : IntsAre x.tx.vs x.tx.ns) (hw : x.wt = worthF v0 v1 u)
    {oh : Obj} (ho : ∃ v, oh.data = .cell v) (h1 : ∀ a ∈ M, @Ne Nat x.ta a) (h2 : ∀ a ∈ M, @Ne Nat x.tx.a a) : DOk K v0 v1 RA M junk₀ base i (cs ++ [u]) ⟨d.U ++ [x], d.nl + 1, oh, d.rows, x.tup :: x.tx.ent :: d.junk⟩ where
  hU := by
    intro y hy
    rcases List.mem_append.mp hy with hy | hy
    · exact (h.hU y hy).mono fun p hp => .tail _ (.tail _ hp)
    · rw [List.mem_singleton.mp hy]
      exact ⟨.head _, .tail _ (.head _), hi, by rw [hw, hx]⟩
  hUn := by
    rw [List.map_append, h.hUn, filter_snoc, if_pos hf]
    simp [hx]
  ra := h.ra
  ri := h.ri
  rn := by
    rw [h.rn]
    refine List.map_congr_left fun r hr => ?_
    rw [rowP_same]
    rw [firstI_free hf]
    exact Nat.ne_of_gt (List.mem_range.mp hr)
  oh := ho
  ap := by
    intro p hp a ha
    rcases List.mem_cons.mp hp with rfl | hp
    · exact h1 a ha
    rcases List.mem_cons.mp hp with rfl | hp
    · exact h2 a ha
    · exact h.ap p hp a ha
  sub := fun p hp => .tail _ (.tail _ (h.sub p hp))
/-- a row turned -/
def setRow (rows : List WI) (r : Nat) (vs : List Value) (ns : List Int) : List WI := rows.modify r fun x => { x with vs := vs, ns := ns }
theorem dok_end {K : List (List Int)} {v0 v1 : Int} {RA M : List Nat} {junk₀ base : List (Addr × Obj)} {i : Nat} (hi5 : i < 5) {cs : List (List Int)} {d : DS} (h : DOk K v0 v1 RA M junk₀ base i cs d) {u : List Int} (hf : freeOf K u = false)
    {x : WI} (hx : d.rows[firstI K u]? = some x) {vs : List Value} {ns : List Int} (hvs : IntsAre vs ns) (hns : ns = x.ns.set (i + 1) (x.ns.getD (i + 1) 0 + worthF v0 v1 u)) {oh : Obj} (ho : ∃ v, oh.data = .cell v) :
    DOk K v0 v1 RA M junk₀ base i (cs ++ [u]) ⟨d.U, d.nl, oh, setRow d.rows (firstI K u) vs ns, d.junk⟩ where
  hU := h.hU
  hUn := by
    rw [h.hUn, filter_snoc, if_neg (by rw [hf]; exact Bool.false_ne_true), List.append_nil]
  ra := by
    rw [← h.ra]
    refine List.ext_getElem? fun k => ?_
    simp only [setRow, List.getElem?_map, List.getElem?_modify]
    by_cases hk : firstI K u = k
    · subst hk; rw [hx]; simp
    · simp [hk]
  ri := by
    intro r hr
    obtain ⟨k, hk⟩ := List.mem_iff_getElem?.mp hr
    simp only [setRow, List.getElem?_modify] at hk
    by_cases e : firstI K u = k
    · subst e; rw [hx] at hk; simp at hk; subst hk; exact hvs
    · simp only [e, if_false, Option.map_id'] at hk
      cases hd : d.rows[k]? with
      | none => rw [hd] at hk; simp at hk
      | some y => rw [hd] at hk; simp at hk; subst hk; exact h.ri _ (List.mem_of_getElem? hd)
  rn := by
    have hrn : ∀ k : Nat, (d.rows[k]?).map (fun x : WI => x.ns) = ((List.range K.length)[k]?).map (rowP K v0 v1 i cs) := fun k => by
      rw [← List.getElem?_map, h.rn, List.getElem?_map]
    refine List.ext_getElem? fun k => ?_
    simp only [setRow, List.getElem?_map, List.getElem?_modify]
    have := hrn k
    by_cases hk : firstI K u = k
    · subst hk
      have hlt := firstI_lt hf
      rw [hx, List.getElem?_range hlt] at this
      rw [hx, List.getElem?_range hlt]
      simp only [Option.map_some, if_true, Option.some.injEq] at this ⊢
      rw [hns, this, rowP_step K v0 v1 i hi5 cs u _ rfl]
      rfl
    · simp only [hk, if_false]
      have e : ((fun a => a) <$> d.rows[k]?) = d.rows[k]? := by cases d.rows[k]? <;> rfl
      rw [e, this]
      by_cases hk2 : k < K.length
      · rw [List.getElem?_range hk2]
        simp only [Option.map_some]
        rw [rowP_same K v0 v1 i cs u k hk]
      · rw [List.getElem?_eq_none (by simpa using hk2)]
        rfl
  oh := ho
  ap := h.ap
  sub := h.sub
/-- the inner loops' ledger -/
abbrev LedI (Lg hc : Addr) (F : List (Addr × Obj)) (base : List (Addr × Obj)) (d : DS) : List (Addr × Obj) := (Lg, listOf (tupsOf d.U).toArray d.nl) :: (hc, d.oh) :: (F ++ d.tail base)
theorem row_of {rows rows' : List WI} (h : rows'.map (·.a) = rows.map (·.a)) {r : WI} (hr : r ∈ rows') : ∃ q ∈ rows, q.a = r.a := by
  have : r.a ∈ rows.map (·.a) := h ▸ List.mem_map_of_mem hr
  obtain ⟨q, hq, e⟩ := List.mem_map.mp this
  exact ⟨q, hq, e⟩
theorem ledI_ne {Lg hc it : Addr} {F base : List (Addr × Obj)} {d d' : DS} (ho : ∀ p ∈ LedI Lg hc F base d, p.1 ≠ it) (hr : d'.rows.map (·.a) = d.rows.map (·.a)) (hj : ∀ p ∈ d'.junk, p ∈ d.junk ∨ @Ne Nat p.1 it) : ∀ p ∈ LedI Lg hc F base d', p.1 ≠ it := by
  intro p hp
  simp only [LedI, DS.tail, List.mem_cons, List.mem_append] at hp
  rcases hp with rfl | rfl | h | h | h | h
  · exact ho (Lg, listOf (tupsOf d.U).toArray d.nl) (.head _)
  · exact ho (hc, d.oh) (.tail _ (.head _))
  · exact ho p (.tail _ (.tail _ (List.mem_append_left _ h)))
  · obtain ⟨r, hr', rfl⟩ := List.mem_map.mp h
    obtain ⟨q, hq, e⟩ := row_of hr hr'
    rw [show r.ent.1 = q.ent.1 from e.symm]
    exact ho q.ent (.tail _ (.tail _ (List.mem_append_right _ (List.mem_append_left _ (List.mem_map_of_mem hq)))))
  · rcases hj p h with h | h
    · exact ho p (.tail _ (.tail _ (List.mem_append_right _ (List.mem_append_right _ (List.mem_append_left _ h)))))
    · exact h
  · exact ho p (.tail _ (.tail _ (List.mem_append_right _ (List.mem_append_right _ (List.mem_append_right _ h)))))
theorem fresh_I {Lg hc X : Addr} {F base news : List (Addr × Obj)} {d : DS} {RA : List Nat} (hra : d.rows.map (·.a) = RA) (hG : ∀ p ∈ LedI Lg hc F base d, p ∈ news) (l : AllLt X news) : ∀ a ∈ Lg :: hc :: (F.map (·.1) ++ RA), @Ne Nat X a := by
  have hl := all_lt l
  intro a ha
  refine Nat.ne_of_gt ?_
  simp only [List.mem_cons, List.mem_append, List.mem_map] at ha
  rcases ha with rfl | rfl | ⟨p, hp, rfl⟩ | h
  · exact hl _ (hG _ (.head _))
  · exact hl _ (hG _ (.tail _ (.head _)))
  · exact hl p (hG p (.tail _ (.tail _ (List.mem_append_left _ hp))))
  · rw [← hra] at h
    obtain ⟨r, hr, rfl⟩ := List.mem_map.mp h
    exact hl r.ent (hG _ (.tail _ (.tail _ (List.mem_append_right _ (List.mem_append_left _ (List.mem_map_of_mem hr))))))
/-- an object that turns stands apart from what stands behind it -/
theorem tail_ne {K : List (List Int)} {v0 v1 : Int} {RA M : List Nat} {junk₀ base : List (Addr × Obj)} {i : Nat} {cs : List (List Int)} {d : DS} (h : DOk K v0 v1 RA M junk₀ base i cs d) {a : Nat} (ha : a ∈ M) (hn : a ∉ RA) : ∀ p ∈ d.tail base, @Ne Nat p.1 a := by
  intro p hp
  rcases List.mem_append.mp hp with hp | hp
  · obtain ⟨r, hr, rfl⟩ := List.mem_map.mp hp
    intro e
    exact hn (h.ra ▸ e ▸ List.mem_map_of_mem hr)
  · exact h.ap p hp a ha
section
variable {prog : Program} {w : World} {A : Around} {E : Value → Shared → Prop} {s : Shared} {h₀ : Heap} {L a : Addr} {news : List (Addr × Obj)} {Q : Value → Shared → Prop}
theorem strsAre_v : ∀ l : List (Str × Tok), StrsAre (strValues l) (l.map (·.1))
  | [] => .nil
  | (x, t) :: r => .cons x t (strsAre_v r)
theorem repr_false : ∀ b : Bool, (reprB b == Str.ofString "False") = !b := by decide +kernel
theorem count_found {K : List (List Int)} {u : List Int} {l : List (Str × Tok)} {n : Nat} {t : Tok} (N : News h₀ L s.heap news) (ha : (a, listOf (strValues l).toArray n) ∈ news) (hl : l.map (·.1) = K.map fun w => reprB (infx w u))
    (h : Q (.int ((K.countP fun w => !infx w u : Nat) : Int) s.toks) { s with toks := s.toks + 1 }) : wpAny (model prog w) A (call (.builtin "list.count") [.ref a, .str (Str.ofString "False") t]) Q E s := by
  have hs := strsAre_v l
  rw [hl] at hs
  refine count_list_strs (vs := strValues l) (News.isList N ha) hs ?_
  have : ∀ (K : List (List Int)) (vs : List Value), StrsAre vs (K.map fun w => reprB (infx w u)) → vs.countP (isStrOf (Str.ofString "False")) = K.countP fun w => !infx w u := by
    intro K
    induction K with
    | nil => intro vs h; cases h; rfl
    | cons w r ih =>
      intro vs h
      cases h with
      | cons y t h =>
        rw [List.countP_cons, List.countP_cons, ih _ h]
        congr 1
        show (if (reprB (infx w u) == Str.ofString "False") = true then 1 else 0) = _
        rw [repr_false]
  rw [← countP_isStrOf_map _ hs, this K _ hs]
  exact h
theorem index_found {K : List (List Int)} {u : List Int} {l : List (Str × Tok)} {n : Nat} {t : Tok} (N : News h₀ L s.heap news) (ha : (a, listOf (strValues l).toArray n) ∈ news) (hl : l.map (·.1) = K.map fun w => reprB (infx w u)) (hK : K.length ≤ 2) (hf : freeOf K u = false)
    (h : Q (.int ((firstI K u : Nat) : Int) s.toks) { s with toks := s.toks + 1 }) : wpAny (model prog w) A (call (.builtin "list.index") [.ref a, .str (Str.ofString "True") t]) Q E s := by
  have hs := strsAre_v l
  have hlen : (strValues l).length = K.length := by
    have := congrArg List.length hl
    simpa [strValues] using this
  have hlt := firstI_lt hf
  have at_ : ∀ j (hj : j < (strValues l).toArray.size), isStrOf (Str.ofString "True") (strValues l).toArray[j] = infx (K.getD j []) u := by
    intro j hj
    have hj' : j < l.length := by simpa [strValues] using hj
    have hjK : j < K.length := by rw [← hlen]; simpa [strValues] using hj'
    have e : (l.map (·.1))[j]? = some (reprB (infx (K.getD j []) u)) := by
      rw [hl, List.getElem?_map, List.getElem?_eq_getElem hjK, List.getD_eq_getElem?_getD, List.getElem?_eq_getElem hjK]
      rfl
    rw [List.getElem?_map, List.getElem?_eq_getElem hj'] at e
    simp only [Option.map_some, Option.some.injEq] at e
    have e2 : (strValues l).toArray[j] = .str l[j].1 l[j].2 := by simp [strValues]
    rw [e2]
    show (l[j].1 == Str.ofString "True") = _
    rw [e]
    cases infx (K.getD j []) u <;> rfl
  refine call_meets PySem.F.slot_list_index ⟨_, (N _ ha).1, rfl⟩ PySem.F.entry_list_index (PySem.F.args_list_index_2 _ _)
    (MeetsSeq.list_index a _ n (.str (Str.ofString "True") t) (isStrOf (Str.ofString "True")) (fun y hy => eq_isStrOf _ t hs y (by simpa using hy)) (firstI K u) (by simpa [hlen] using hlt) (by omega) ?_ ?_) ⟨(N _ ha).1, h⟩
  · rw [at_, List.getD_eq_getElem?_getD, List.getElem?_eq_getElem hlt]
    exact List.findIdx_getElem (w := hlt)
  · intro j hj hlt2
    rw [at_, List.getD_eq_getElem?_getD, List.getElem?_eq_getElem (by omega)]
    have := List.not_of_lt_findIdx (p := fun w => infx w u) (xs := K) hlt2
    simpa using this
end
/-- what the grow loop turns -/
structure OS where
  R : Addr
  nR : Nat
  T : List TI
  svs : List Value
  sn : Nat
  oh : Obj
  rows : List WI
  junk : List (Addr × Obj)
abbrev LedO (S hc wc : Addr) (ow : Obj) (base : List (Addr × Obj)) (c : OS) : List (Addr × Obj) := (S, listOf c.svs.toArray c.sn) :: (hc, c.oh) :: (wc, ow) :: (entsOf c.rows ++ (c.junk ++ base))
structure OOk (K : List (List Int)) (v0 v1 : Int) (RA M : List Nat) (base : List (Addr × Obj)) (i : Nat) (c : OS) : Prop where
  hR : (c.R, listOf (tupsOf c.T).toArray c.nR) ∈ c.junk
  hT : ∀ x ∈ c.T, x.Ok v0 v1 c.junk
  hTn : c.T.map (·.tx.ns) = runT K i
  hs : IntsAre c.svs (sumsA K v0 v1 i)
  ra : c.rows.map (·.a) = RA
  ri : ∀ r ∈ c.rows, IntsAre r.vs r.ns
  rn : c.rows.map (·.ns) = (List.range K.length).map (rowA K v0 v1 i)
  oh : ∃ v, c.oh.data = .cell v
  ap : Apt M (c.junk ++ base)
theorem pack6 {h₀ h : Heap} {Lf Lg it0 S hc wc : Addr} {io0 ow : Obj} {base : List (Addr × Obj)} {c : OS} {K : List (List Int)} {v0 v1 : Int} {RA : List Nat} {i : Nat} (N : News h₀ Lf h ((Lg, listOf #[] 0) :: (it0, io0) :: LedO S hc wc ow base c))
    (lL : AllLt Lg ((it0, io0) :: LedO S hc wc ow base c)) (ho : ∀ p ∈ LedO S hc wc ow base c, p.1 ≠ it0) (hP : OOk K v0 v1 RA (S :: hc :: wc :: RA) base i c) (hnd : (S :: hc :: wc :: RA : List Nat).Nodup) :
    News h₀ Lf h (LedI Lg hc [(it0, io0), (S, listOf c.svs.toArray c.sn), (wc, ow), (c.R, listOf (tupsOf c.T).toArray c.nR)] base ⟨[], 0, c.oh, c.rows, c.junk⟩) ∧
    DOk K v0 v1 RA (Lg :: hc :: it0 :: S :: wc :: RA) c.junk base i [] ⟨[], 0, c.oh, c.rows, c.junk⟩ ∧ (Lg :: hc :: it0 :: S :: wc :: RA : List Nat).Nodup := by
  have hl := all_lt lL
  have lit : @LT.lt Nat _ it0 Lg := hl _ (.head _)
  have lS : @LT.lt Nat _ S Lg := hl (S, listOf c.svs.toArray c.sn) (.tail _ (.head _))
  have lh : @LT.lt Nat _ hc Lg := hl (hc, c.oh) (.tail _ (.tail _ (.head _)))
  have lw : @LT.lt Nat _ wc Lg := hl (wc, ow) (.tail _ (.tail _ (.tail _ (.head _))))
  have lt' : ∀ p ∈ entsOf c.rows ++ (c.junk ++ base), @LT.lt Nat _ p.1 Lg := fun p hp => hl p (.tail _ (.tail _ (.tail _ (.tail _ hp))))
  have oS : @Ne Nat S it0 := ho (S, listOf c.svs.toArray c.sn) (.head _)
  have oh : @Ne Nat hc it0 := ho (hc, c.oh) (.tail _ (.head _))
  have ow' : @Ne Nat wc it0 := ho (wc, ow) (.tail _ (.tail _ (.head _)))
  have ot : ∀ p ∈ entsOf c.rows ++ (c.junk ++ base), @Ne Nat p.1 it0 := fun p hp => ho p (.tail _ (.tail _ (.tail _ hp)))
  have hrow : ∀ a ∈ RA, @LT.lt Nat _ a Lg ∧ @Ne Nat a it0 := by
    intro a ha
    rw [← hP.ra] at ha
    obtain ⟨r, hr, rfl⟩ := List.mem_map.mp ha
    exact ⟨lt' r.ent (List.mem_append_left _ (List.mem_map_of_mem hr)), ot r.ent (List.mem_append_left _ (List.mem_map_of_mem hr))⟩
  refine ⟨?_, ⟨fun _ h => (nomatch h), rfl, hP.ra, hP.ri, ?_, hP.oh, ?_, fun p hp => hp⟩, ?_⟩
  · intro p hp
    simp only [LedI, DS.tail, List.mem_cons, List.mem_append, List.not_mem_nil, or_false, List.map_nil] at hp
    rcases hp with rfl | rfl | (rfl | rfl | rfl | rfl) | h | h | h
    · exact N _ (.head _)
    · exact N _ (.tail _ (.tail _ (.tail _ (.head _))))
    · exact N _ (.tail _ (.head _))
    · exact N _ (.tail _ (.tail _ (.head _)))
    · exact N _ (.tail _ (.tail _ (.tail _ (.tail _ (.head _)))))
    · exact N _ (.tail _ (.tail _ (.tail _ (.tail _ (.tail _ (List.mem_append_right _ (List.mem_append_left _ hP.hR)))))))
    · exact N p (.tail _ (.tail _ (.tail _ (.tail _ (.tail _ (List.mem_append_left _ h))))))
    · exact N p (.tail _ (.tail _ (.tail _ (.tail _ (.tail _ (List.mem_append_right _ (List.mem_append_left _ h)))))))
    · exact N p (.tail _ (.tail _ (.tail _ (.tail _ (.tail _ (List.mem_append_right _ (List.mem_append_right _ h)))))))
  · rw [hP.rn]
    refine List.map_congr_left fun r _ => ?_
    rw [rowP_nil]
  · intro p hp a ha
    have hp' : p ∈ entsOf c.rows ++ (c.junk ++ base) := List.mem_append_right _ hp
    simp only [List.mem_cons] at ha
    rcases ha with rfl | rfl | rfl | rfl | rfl | h
    · exact Nat.ne_of_lt (lt' p hp')
    · exact hP.ap p hp _ (.tail _ (.head _))
    · exact ot p hp'
    · exact hP.ap p hp _ (.head _)
    · exact hP.ap p hp _ (.tail _ (.tail _ (.head _)))
    · exact hP.ap p hp a (.tail _ (.tail _ (.tail _ h)))
  · simp only [List.nodup_cons, List.mem_cons, not_or] at hnd ⊢
    obtain ⟨⟨n1, n2, n3⟩, ⟨n4, n5⟩, n6, n7⟩ := hnd
    refine ⟨⟨Nat.ne_of_gt lh, Nat.ne_of_gt lit, Nat.ne_of_gt lS, Nat.ne_of_gt lw, fun h => absurd (hrow _ h).1 (Nat.lt_irrefl _)⟩, ⟨oh, fun e => n1 e.symm, n4, n5⟩, ⟨fun e => oS e.symm, fun e => ow' e.symm, fun h => (hrow _ h).2 rfl⟩, ⟨n2, n3⟩, n6, n7⟩
theorem calm_tuple {elts : List PySem.Expr} {x1 : Nat} {pos : Pos} : Calm (.Tuple elts x1 pos) := .inr ⟨_, _, _, rfl⟩
theorem tups_at {l : List TI} {j : Nat} {v : Value} (h : (tupsOf l)[j]? = some v) : ∃ x, l[j]? = some x ∧ v = .ref x.ta := by
  rw [tupsOf, List.getElem?_map] at h
  cases hw : l[j]? with
  | none => rw [hw] at h; cases h
  | some x => rw [hw] at h; cases h; exact ⟨x, rfl, rfl⟩
theorem pack7 {h₀ h : Heap} {Lf Lg hc it1 : Addr} {io1 : Obj} {F base : List (Addr × Obj)} {d : DS} {K : List (List Int)} {v0 v1 : Int} {RA M : List Nat} {junk₀ : List (Addr × Obj)} {i : Nat} {cs : List (List Int)} (N : News h₀ Lf h ((it1, io1) :: LedI Lg hc F base d))
    (ho : ∀ p ∈ LedI Lg hc F base d, p.1 ≠ it1) (hP : DOk K v0 v1 RA M junk₀ base i cs d) :
    News h₀ Lf h (LedI Lg hc ((it1, io1) :: F) base d) ∧ DOk K v0 v1 RA (it1 :: M) junk₀ base i (cs ++ []) d := by
  refine ⟨?_, ⟨hP.hU, by rw [List.append_nil]; exact hP.hUn, hP.ra, hP.ri, by rw [List.append_nil]; exact hP.rn, hP.oh, ?_, hP.sub⟩⟩
  · intro p hp
    simp only [LedI, List.mem_cons, List.cons_append] at hp
    refine N p ?_
    simp only [LedI, List.mem_cons]
    rcases hp with h | h | h | h <;> simp [h]
  · intro p hp a ha
    rcases List.mem_cons.mp ha with rfl | ha
    · exact ho p (.tail _ (.tail _ (List.mem_append_right _ (List.mem_append_right _ hp))))
    · exact hP.ap p hp a ha
theorem DOk.weak {K : List (List Int)} {v0 v1 : Int} {RA M : List Nat} {it1 : Nat} {junk₀ base : List (Addr × Obj)} {i : Nat} {cs cs' : List (List Int)} {d : DS} (hP : DOk K v0 v1 RA (it1 :: M) junk₀ base i cs d) (e : cs = cs') : DOk K v0 v1 RA M junk₀ base i cs' d := by
  subst e
  exact ⟨hP.hU, hP.hUn, hP.ra, hP.ri, hP.rn, hP.oh, fun p hp a ha => hP.ap p hp a (.tail _ ha), hP.sub⟩
theorem two_bits {b : Nat} (h : b < 2) : (0 + (b : Int)) = 0 ∨ (0 + (b : Int)) = 1 := by omega
theorem fr_anyE {h₀ h : Heap} {L : Addr} {m : Str → Option Value} (ps : List (Str × Value)) (F : Fr h₀ L h m) (h1 : ∀ p ∈ ps, m p.1 = some p.2) : ∃ m0, Fr h₀ L h (kstB m0 ps) ∧ ∀ z, kstB m0 ps z = m z :=
  ⟨m, fr_say ps F h1, fun _ => kstB_eq h1 fun _ => rfl⟩
theorem ext_take {t : List Int} {b : Nat} (h : b < 2) : (ext t).take (b + 1) = (ext t).take b ++ [t ++ [0 + (b : Int)]] := by
  obtain rfl | rfl : b = 0 ∨ b = 1 := by omega
  · rfl
  · rfl
theorem worth_at {v0 v1 : Int} {y1 y2 : Tok} {l : Int} (h : l = 0 ∨ l = 1) : ∃ wl yl, [Value.int v0 y1, Value.int v1 y2][l.toNat]? = some (.int wl yl) ∧ wl = if l = 0 then v0 else v1 := by
  rcases h with rfl | rfl
  · exact ⟨_, _, rfl, rfl⟩
  · exact ⟨_, _, rfl, rfl⟩
theorem apart_I {Lg hc it0 S wc : Nat} {RA : List Nat} (hnd : (Lg :: hc :: it0 :: S :: wc :: RA).Nodup) : (@Ne Nat Lg hc ∧ @Ne Nat Lg it0 ∧ @Ne Nat Lg S ∧ @Ne Nat Lg wc ∧ Lg ∉ RA) ∧ @Ne Nat hc it0 ∧ @Ne Nat hc S ∧ @Ne Nat hc wc ∧ hc ∉ RA := by
  simp only [List.nodup_cons, List.mem_cons, not_or] at hnd
  exact ⟨⟨hnd.1.1, hnd.1.2.1, hnd.1.2.2.1, hnd.1.2.2.2.1, hnd.1.2.2.2.2⟩, hnd.2.1.1, hnd.2.1.2.1, hnd.2.1.2.2.1, hnd.2.1.2.2.2⟩
theorem host_len {x : Str} (h : x.length ≤ 20) : (Str.ofString "x." ++ x ++ Str.ofString ".local").length ≤ 200 := by
  have e : ∀ a b : Str, (a ++ b).length = a.length + b.length := fun a b => by
    show (a.cps ++ b.cps).size = _
    exact Array.size_append
  have h1 : (Str.ofString "x.").length = 2 := by decide
  have h2 : (Str.ofString ".local").length = 6 := by decide
  rw [e, e, h1, h2]
  omega
theorem isL_of {h₀ h : Heap} {L a : Addr} {news : List (Addr × Obj)} {vs : List Value} {n : Nat} (N : News h₀ L h news) (hm : (a, listOf vs.toArray n) ∈ news) : h.IsList a vs.toArray := News.isList N hm
theorem strs_at {l : List (Str × Tok)} {K : List (List Int)} {g : List Int → Str} (h : l.map (·.1) = K.map g) {j : Nat} {v : Value} (hv : (strValues l)[j]? = some v) : ∃ w t, K[j]? = some w ∧ v = .str (g w) t := by
  have hl : (l.map (·.1))[j]? = (K.map g)[j]? := by rw [h]
  rw [List.getElem?_map, List.getElem?_map] at hl
  have e : strValues l = l.map fun p => Value.str p.1 p.2 := rfl
  rw [e, List.getElem?_map] at hv
  cases hw : l[j]? with
  | none => rw [hw] at hv; cases hv
  | some p =>
    rw [hw] at hv hl
    cases hk : K[j]? with
    | none => rw [hk] at hl; cases hl
    | some w =>
      rw [hk] at hl
      simp only [Option.map_some, Option.some.injEq] at hl hv
      exact ⟨w, p.2, rfl, by rw [← hv, hl]⟩
section
variable {prog : Program} {w : World} {A : Around} {E : Value → Shared → Prop} {s : Shared} {h₀ : Heap} {L a : Addr} {news : List (Addr × Obj)} {Q : Value → Shared → Prop}
theorem len_led {vs : List Value} {n k : Nat} (N : News h₀ L s.heap news) (hm : (a, listOf vs.toArray n) ∈ news) (hk : vs.length = k) (hz : k ≤ 1000) (h : Q (.int (k : Int) (s.toks + 1)) { s with toks := s.toks + 1 + 1 }) : wpAny (model prog w) A (call (.builtin "len") [.ref a]) Q E s := by
  subst hk
  refine len_list (News.isList N hm) (by rw [List.size_toArray]; omega) ?_
  rw [List.size_toArray]
  exact h
end
theorem count_free (K : List (List Int)) (u : List Int) : decide (((K.countP fun w => !infx w u : Nat) : Int) = ((K.length : Nat) : Int)) = freeOf K u := by
  have e : ((K.countP fun w => !infx w u) = K.length) ↔ ∀ w ∈ K, (!infx w u) = true := List.countP_eq_length
  have e2 : (freeOf K u = true) ↔ ∀ w ∈ K, (!infx w u) = true := List.all_eq_true
  cases hf : freeOf K u with
  | true => exact decide_eq_true (by rw [e.mpr (e2.mp hf)])
  | false =>
    refine decide_eq_false fun h => ?_
    have : freeOf K u = true := e2.mpr (e.mp (by omega))
    rw [hf] at this
    cases this
end Mine
end
section
namespace Mine
theorem count_freeB (K : List (List Int)) (u : List Int) : (((K.countP fun w => !infx w u : Nat) : Int) == ((K.length : Nat) : Int)) = freeOf K u := by
  rw [← count_free]
  by_cases h : ((K.countP fun w => !infx w u : Nat) : Int) = ((K.length : Nat) : Int)
  · rw [decide_eq_true h]; exact beq_iff_eq.mpr h
  · rw [decide_eq_false h]; exact beq_eq_false_iff_ne.mpr h
theorem flat_len (l : List (List Int)) : (l.flatMap ext).length = 2 * l.length := by
  induction l with
  | nil => rfl
  | cons a r ih => rw [List.flatMap_cons, List.length_append, ih, List.length_cons]; show 2 + _ = _; omega
theorem runT_le (K : List (List Int)) : ∀ k, (runT K k).length ≤ 2 ^ k
  | 0 => Nat.le_refl _
  | k + 1 => by
    rw [runT_succ]
    have h1 := runT_le K k
    have h2 := List.length_filter_le (freeOf K) ((runT K k).flatMap ext)
    rw [flat_len] at h2
    rw [Nat.pow_succ]
    omega
theorem dok_len {K : List (List Int)} {v0 v1 : Int} {RA M : List Nat} {junk₀ base : List (Addr × Obj)} {i j b : Nat} {d : DS} {t : List Int} (hi : i < 5) (h : DOk K v0 v1 RA M junk₀ base i (((runT K i).take j).flatMap ext ++ (ext t).take b) d) : d.U.length ≤ 40 := by
  have h1 := congrArg List.length h.hUn
  rw [List.length_map] at h1
  rw [h1]
  refine Nat.le_trans (List.length_filter_le _ _) ?_
  rw [List.length_append, flat_len]
  have h2 : ((runT K i).take j).length ≤ (runT K i).length := List.length_take_le' _ _
  have h3 := runT_le K i
  have h4 : ((ext t).take b).length ≤ 2 := List.length_take_le' _ _
  have h5 : 2 ^ i ≤ 2 ^ 4 := Nat.pow_le_pow_right (by decide) (by omega)
  omega
abbrev F5 (it1 it0 S wc Rr : Addr) (io1 io0 sO ow rO : Obj) : List (Addr × Obj) := [(it1, io1), (it0, io0), (S, sO), (wc, ow), (Rr, rO)]
theorem lt_M {X it1 it0 S wc Lg hc : Nat} {d : DS} {RA : List Nat} {base : List (Addr × Obj)} (hra : d.rows.map (·.a) = RA) (h1 : Lg < X ∧ hc < X ∧ it1 < X ∧ it0 < X ∧ S < X ∧ wc < X) (l : AllLt X (entsOf d.rows ++ (d.junk ++ base))) :
    ∀ a ∈ it1 :: Lg :: hc :: it0 :: S :: wc :: RA, @Ne Nat X a := by
  have hl := all_lt l
  intro a ha
  refine Nat.ne_of_gt ?_
  simp only [List.mem_cons] at ha
  rcases ha with rfl | rfl | rfl | rfl | rfl | rfl | h
  · exact h1.2.2.1
  · exact h1.1
  · exact h1.2.1
  · exact h1.2.2.2.1
  · exact h1.2.2.2.2.1
  · exact h1.2.2.2.2.2
  · rw [← hra] at h
    obtain ⟨r, hr, rfl⟩ := List.mem_map.mp h
    exact hl r.ent (List.mem_append_left _ (List.mem_map_of_mem hr))
theorem end_free {h₀ h : Heap} {Lf Tn X2 l' Fa it2 Lg hc it1 it0 S wc Rr : Addr} {ol oF io2 oh2 io1 io0 sO ow rO : Obj} {base : List (Addr × Obj)} {d : DS} {K : List (List Int)} {v0 v1 : Int} {RA : List Nat} {junk₀ : List (Addr × Obj)} {i : Nat} {cs : List (List Int)} {u : List Int} {us : List Value} {wv : Int} {tkn : Tok}
    (hD : DOk K v0 v1 RA (it1 :: Lg :: hc :: it0 :: S :: wc :: RA) junk₀ base i cs d) (hf : freeOf K u = true)
    (N : News h₀ Lf h ((Tn, tupO [.ref X2, .int wv tkn]) :: (X2, listOf us.toArray 0) :: (l', ol) :: (Fa, oF) :: (it2, io2) :: (Lg, listOf ((tupsOf d.U).toArray.push (.ref Tn)) (d.nl + 1)) :: (hc, oh2) :: (it1, io1) :: (it0, io0) :: (S, sO) :: (wc, ow) :: (Rr, rO) :: (entsOf d.rows ++ (d.junk ++ base))))
    (hus : IntsAre us u) (hw : wv = worthF v0 v1 u)
    (lX : l' < X2 ∧ Fa < X2 ∧ it2 < X2 ∧ Lg < X2 ∧ hc < X2 ∧ it1 < X2 ∧ it0 < X2 ∧ S < X2 ∧ wc < X2 ∧ Rr < X2 ∧ AllLt X2 (entsOf d.rows ++ (d.junk ++ base)))
    (lT : X2 < Tn ∧ l' < Tn ∧ Fa < Tn ∧ it2 < Tn ∧ Lg < Tn ∧ hc < Tn ∧ it1 < Tn ∧ it0 < Tn ∧ S < Tn ∧ wc < Tn ∧ Rr < Tn ∧ AllLt Tn (entsOf d.rows ++ (d.junk ++ base)))
    (ho : ∀ p ∈ LedI Lg hc (F5 it1 it0 S wc Rr io1 io0 sO ow rO) base d, p.1 ≠ it2) (hoh : ∃ v, oh2.data = .cell v) :
    ∃ d', News h₀ Lf h ((it2, io2) :: LedI Lg hc (F5 it1 it0 S wc Rr io1 io0 sO ow rO) base d') ∧ (∀ p ∈ LedI Lg hc (F5 it1 it0 S wc Rr io1 io0 sO ow rO) base d', p.1 ≠ it2) ∧ DOk K v0 v1 RA (it1 :: Lg :: hc :: it0 :: S :: wc :: RA) junk₀ base i (cs ++ [u]) d' := by
  refine ⟨_, ?_, ?_, dok_free hD hf ⟨Tn, ⟨X2, us, u, 0⟩, wv, tkn⟩ rfl hus hw hoh (lt_M hD.ra ⟨lT.2.2.2.2.1, lT.2.2.2.2.2.1, lT.2.2.2.2.2.2.1, lT.2.2.2.2.2.2.2.1, lT.2.2.2.2.2.2.2.2.1, lT.2.2.2.2.2.2.2.2.2.1⟩ lT.2.2.2.2.2.2.2.2.2.2.2)
    (lt_M hD.ra ⟨lX.2.2.2.1, lX.2.2.2.2.1, lX.2.2.2.2.2.1, lX.2.2.2.2.2.2.1, lX.2.2.2.2.2.2.2.1, lX.2.2.2.2.2.2.2.2.1⟩ lX.2.2.2.2.2.2.2.2.2.2)⟩
  · intro p hp
    refine N p ?_
    have e : (tupsOf (d.U ++ [(⟨Tn, ⟨X2, us, u, 0⟩, wv, tkn⟩ : TI)])).toArray = (tupsOf d.U).toArray.push (.ref Tn) := by simp [tupsOf]
    simp only [LedI, DS.tail, F5, List.mem_cons, List.mem_append, List.not_mem_nil, or_false, e] at hp ⊢
    rcases hp with h | h | h | (h | h | h | h | h) | h | (h | h | h) | h <;> simp [h]
  · refine ledI_ne ho rfl ?_
    intro p hp
    rcases List.mem_cons.mp hp with rfl | hp
    · exact .inr (Nat.ne_of_gt lT.2.2.2.1)
    rcases List.mem_cons.mp hp with rfl | hp
    · exact .inr (Nat.ne_of_gt lX.2.2.1)
    · exact .inl hp
section
variable {prog : Program} {w : World} {A : Around} {E : Value → Shared → Prop} {s : Shared} {h₀ : Heap} {L D : Addr} {m : Str → Option Value} {news : List (Addr × Obj)} {vs : List Value} {ns : List Int} {n : Nat} {k x : Int} {t u : Tok}
theorem set_any {Q : Unit → Shared → Prop} (F : Fr h₀ L s.heap m) (N : News h₀ L s.heap news) (hm : (D, listOf vs.toArray n) ∈ news) (hi : IntsAre vs ns) (h0 : 0 ≤ k) (h1 : k < ns.length) (hfit : k < 2 ^ 63)
    (h : ∀ h', Fr h₀ L h' m → News h₀ L h' ((D, listOf (vs.set k.toNat (.int x u)).toArray n) :: news.filter fun p => decide (@Ne Nat p.1 D)) → IntsAre (vs.set k.toNat (.int x u)) (ns.set k.toNat x) → Q () { s with heap := h' }) :
    wpAny (model prog w) A (setItem (.ref D) (.int k t) (.int x u)) Q E s := by
  have N' : News h₀ L s.heap ((D, listOf vs.toArray n) :: news.filter fun p => decide (@Ne Nat p.1 D)) := by
    intro p hp
    rcases List.mem_cons.mp hp with rfl | hp
    · exact N _ hm
    · exact N p (List.mem_filter.mp hp).1
  exact ksa_set F N' (.head fun p hp => of_decide_eq_true (List.mem_filter.mp hp).2) hi h0 h1 hfit fun h' F' N2 hi' _ _ => h h' F' N2 hi'
end
theorem end_end {h₀ h : Heap} {Lf it2 Lg hc it1 it0 S wc Rr : Addr} {io2 oh2 io1 io0 sO ow rO : Obj} {base news : List (Addr × Obj)} {d : DS} {K : List (List Int)} {v0 v1 : Int} {RA : List Nat} {junk₀ : List (Addr × Obj)} {i : Nat} {cs : List (List Int)} {u : List Int} {vs : List Value} {ns : List Int} {xr : WI}
    (hi5 : i < 5) (hD : DOk K v0 v1 RA (it1 :: Lg :: hc :: it0 :: S :: wc :: RA) junk₀ base i cs d) (hf : freeOf K u = false) (hx : d.rows[firstI K u]? = some xr) (hvs : IntsAre vs ns) (hns : ns = xr.ns.set (i + 1) (xr.ns.getD (i + 1) 0 + worthF v0 v1 u))
    (N : News h₀ Lf h ((xr.a, listOf vs.toArray xr.n) :: news.filter fun p => decide (@Ne Nat p.1 xr.a)))
    (hs : ∀ p ∈ (it2, io2) :: LedI Lg hc (F5 it1 it0 S wc Rr io1 io0 sO ow rO) base { d with oh := oh2 }, p ∈ news)
    (ho1 : ∀ a ∈ RA, @Ne Nat a it1) (hnd : (Lg :: hc :: it0 :: S :: wc :: RA : List Nat).Nodup) (hRr : (Rr, rO) ∈ d.junk)
    (ho : ∀ p ∈ LedI Lg hc (F5 it1 it0 S wc Rr io1 io0 sO ow rO) base d, p.1 ≠ it2) (hoh : ∃ v, oh2.data = .cell v) :
    ∃ d', News h₀ Lf h ((it2, io2) :: LedI Lg hc (F5 it1 it0 S wc Rr io1 io0 sO ow rO) base d') ∧ (∀ p ∈ LedI Lg hc (F5 it1 it0 S wc Rr io1 io0 sO ow rO) base d', p.1 ≠ it2) ∧ DOk K v0 v1 RA (it1 :: Lg :: hc :: it0 :: S :: wc :: RA) junk₀ base i (cs ++ [u]) d' := by
  have hok := dok_end hi5 hD hf hx hvs hns hoh
  have hxm := List.mem_of_getElem? hx
  have hxR : xr.a ∈ RA := hD.ra ▸ List.mem_map_of_mem hxm
  refine ⟨_, ?_, ?_, hok⟩
  · have keep : ∀ p ∈ (it2, io2) :: LedI Lg hc (F5 it1 it0 S wc Rr io1 io0 sO ow rO) base { d with oh := oh2 }, @Ne Nat p.1 xr.a → h.get? p.1 = some p.2 ∧ p.1 ≠ Lf ∧ h₀.get? p.1 = none := fun p hp hne =>
      N p (.tail _ (List.mem_filter.mpr ⟨hs p hp, decide_eq_true hne⟩))
    have hnd' := hnd
    simp only [List.nodup_cons, List.mem_cons, not_or] at hnd'
    obtain ⟨⟨_, _, _, _, nLg⟩, ⟨_, _, _, nhc⟩, ⟨_, _, nit0⟩, ⟨_, nS⟩, nwc, nRA⟩ := hnd'
    have nin : ∀ a : Nat, a ∉ RA → @Ne Nat a xr.a := fun a ha e => ha (e ▸ hxR)
    intro p hp
    simp only [LedI, DS.tail, F5, List.mem_cons, List.mem_append, List.not_mem_nil, or_false] at hp
    rcases hp with rfl | rfl | rfl | (rfl | rfl | rfl | rfl | rfl) | hr | hj | hb
    · exact keep _ (.head _) fun e => ho xr.ent (.tail _ (.tail _ (List.mem_append_right _ (List.mem_append_left _ (List.mem_map_of_mem hxm))))) e.symm
    · exact keep _ (.tail _ (.head _)) (nin _ nLg)
    · exact keep _ (.tail _ (.tail _ (.head _))) (nin _ nhc)
    · exact keep _ (.tail _ (.tail _ (.tail _ (.head _)))) fun e => ho1 _ hxR e.symm
    · exact keep _ (.tail _ (.tail _ (.tail _ (.tail _ (.head _))))) (nin _ nit0)
    · exact keep _ (.tail _ (.tail _ (.tail _ (.tail _ (.tail _ (.head _)))))) (nin _ nS)
    · exact keep _ (.tail _ (.tail _ (.tail _ (.tail _ (.tail _ (.tail _ (.head _))))))) (nin _ nwc)
    · exact keep _ (.tail _ (.tail _ (.tail _ (.tail _ (.tail _ (.tail _ (.tail _ (.head _)))))))) (hD.ap _ (List.mem_append_left _ hRr) _ (.tail _ (.tail _ (.tail _ (.tail _ (.tail _ (.tail _ hxR)))))))
    · obtain ⟨r, hrm, rfl⟩ := List.mem_map.mp hr
      obtain ⟨k, hk⟩ := List.mem_iff_getElem?.mp hrm
      simp only [setRow, List.getElem?_modify] at hk
      by_cases e : firstI K u = k
      · subst e
        rw [hx] at hk
        simp at hk
        subst hk
        exact N _ (.head _)
      · simp only [e, if_false] at hk
        have hk : d.rows[k]? = some r := by cases hd : d.rows[k]? <;> rw [hd] at hk <;> exact hk
        have hrm' := List.mem_of_getElem? hk
        refine keep r.ent (.tail _ (.tail _ (.tail _ (List.mem_append_right _ (List.mem_append_left _ (List.mem_map_of_mem hrm')))))) ?_
        intro ea
        refine e ?_
        have h1 : (d.rows.map (·.a))[firstI K u]? = some xr.a := by rw [List.getElem?_map, hx]; rfl
        have h2 : (d.rows.map (·.a))[k]? = some r.a := by rw [List.getElem?_map, hk]; rfl
        rw [hD.ra] at h1 h2
        have h3 : r.a = xr.a := ea
        rw [h3, ← h1] at h2
        have hlt : k < RA.length := by
          apply Nat.lt_of_not_le
          intro hge
          rw [h1, List.getElem?_eq_none hge] at h2
          cases h2
        exact ((List.getElem?_inj hlt nRA).mp h2).symm
    · exact keep p (.tail _ (.tail _ (.tail _ (List.mem_append_right _ (List.mem_append_right _ (List.mem_append_left _ hj)))))) (hD.ap p (List.mem_append_left _ hj) _ (.tail _ (.tail _ (.tail _ (.tail _ (.tail _ (.tail _ hxR)))))))
    · exact keep p (.tail _ (.tail _ (.tail _ (List.mem_append_right _ (List.mem_append_right _ (List.mem_append_right _ hb)))))) (hD.ap p (List.mem_append_right _ hb) _ (.tail _ (.tail _ (.tail _ (.tail _ (.tail _ (.tail _ hxR)))))))
  · exact ledI_ne ho (hok.ra.trans hD.ra.symm) fun p hp => .inl hp
theorem str_app (a b : Str) : (a ++ b).length = a.length + b.length := by
  show (a.cps ++ b.cps).size = _
  exact Array.size_append
theorem zone_len {x : Str} (h : x.length ≤ 20) : (zone x).length ≤ 100 := by
  have h1 : (Str.ofString ".").length = 1 := by decide
  rw [str_app, h1]
  omega
theorem repr_ok {α : Type} {g : α → Bool} (l : List α) : ∀ x ∈ l.map (fun w => reprB (g w)), PyData.strOk x = true := by
  have : ∀ b, PyData.strOk (reprB b) = true := by decide +kernel
  intro x hx
  obtain ⟨w, _, rfl⟩ := List.mem_map.mp hx
  exact this _
theorem strl_head {a : Addr} {l : List (Str × Tok)} {r : List (Addr × Obj)} : (a, listOf (strValues l).toArray l.length) ∈ (a, LCg.lst (strValues l)) :: r := by simp [strValues]
theorem row_len {K : List (List Int)} {v0 v1 : Int} {RA M : List Nat} {junk₀ base : List (Addr × Obj)} {i : Nat} {cs : List (List Int)} {d : DS} (h : DOk K v0 v1 RA M junk₀ base i cs d) {k : Nat} {x : WI} (hx : d.rows[k]? = some x) : x.ns.length = 6 := by
  have h1 : (d.rows.map (·.ns))[k]? = some x.ns := by rw [List.getElem?_map, hx]; rfl
  rw [h.rn, List.getElem?_map] at h1
  cases h2 : (List.range K.length)[k]? with
  | none => rw [h2] at h1; cases h1
  | some r =>
    rw [h2] at h1
    simp only [Option.map_some, Option.some.injEq] at h1
    rw [← h1]
    simp [rowP]
theorem refs_same {rows rows' : List WI} (h : rows'.map (·.a) = rows.map (·.a)) {k : Nat} {x : WI} (hx : rows'[k]? = some x) : (refsOf rows)[((k : Nat) : Int).toNat]? = some (.ref x.a) := by
  have e : refsOf rows = (rows.map (·.a)).map fun a => Value.ref a := by simp [refsOf]
  rw [e, ← h, Int.toNat_natCast, List.getElem?_map, List.getElem?_map, hx]
  rfl
end Mine
end
section
namespace Mine
section
variable {prog : Program} {w : World} {A : Around} {h₀ : Heap} {L : Addr} {m : Str → Option Value} {env : Env} {elt : PySem.Expr} {x x₂ : Str} {scope : Scope} {cl : List (Str × Addr)} {s : Shared} {S : List (Addr × Obj) → Prop} {Fin : List Value → List (Addr × Obj) → Prop} {news : List (Addr × Obj)} {P : Nat → Value → Prop}
theorem rest_genP {n : Nat} (J : Nat → List Value → Prop) (h0 : J 0 [])
    (turn : ∀ i v ys, i < n → P i v → J i ys → ∃ (t : Addr) (ot : Obj) (v₁ v₂ : Value) (nt : Nat), v = .ref t ∧ (t, ot) ∈ news ∧ ot.cls = .type "tuple" ∧ ot.data = .seq #[v₁, v₂] nt ∧
      ∀ I oI C oC D m₂ h tk (E' : Value → Shared → Prop), LCg.NsObj oC m₂ → m₂ x = some v₁ → m₂ x₂ = some v₂ → Fr h₀ L h m → News h₀ L h ((I, oI) :: (C, oC) :: (D, LCg.lst ys) :: news) → LCg.Off3 I C D news → ((@Ne Nat I C) ∧ (@Ne Nat I D) ∧ (@Ne Nat C D)) →
      wpAny (model prog w) A (eval elt (compEnvC scope cl C env)) (LCg.CompEnd h₀ L m { s with heap := h, toks := tk } I oI C oC D (LCg.lst ys) S (fun y news' => news' = news ∧ J (i + 1) (ys ++ [y]))) E' { s with heap := h, toks := tk })
    (fin : ∀ ys, J n ys → Fin ys news) : LCp.CompRestP prog w A h₀ L m env elt x x₂ scope cl s S P Fin n 0 [] news := by
  have key : ∀ (j i : Nat) (ys : List Value), i + j = n → J i ys → LCp.CompRestP prog w A h₀ L m env elt x x₂ scope cl s S P Fin j i ys news := by
    intro j
    induction j with
    | zero =>
      intro i ys hi hy
      have e : i = n := by omega
      subst e
      exact LCp.CompRestP.zero (fin ys hy)
    | succ j ih =>
      intro i ys hi hy
      refine LCp.CompRestP.succ ?_
      intro v hv
      obtain ⟨t, ot, v₁, v₂, nt, e1, e2, e3, e4, tn⟩ := turn i v ys (by omega) hv hy
      refine ⟨t, ot, v₁, v₂, nt, e1, e2, e3, e4, ?_⟩
      intro I oI C oC D m₂ h tk E' hC hx hx2 F N off ne
      refine wpAny_mono (tn I oI C oC D m₂ h tk E' hC hx hx2 F N off ne) (fun y s₂ hq => ?_) fun _ _ e => e
      obtain ⟨h', tk', nw', e, F', N', off', hS, rfl, hj⟩ := hq
      exact ⟨h', tk', nw', e, F', N', off', hS, ih (i + 1) _ (by omega) hj⟩
  exact key n 0 [] (by omega) h0
end
theorem contains4 {z a b c d : Str} (h : [a, b, c, d].contains z = false) : z ≠ a ∧ z ≠ b ∧ z ≠ c ∧ z ≠ d := by
  simp only [List.contains_cons, List.contains_nil, Bool.or_false, Bool.or_eq_false_iff, beq_eq_false_iff_ne, ne_eq] at h
  exact ⟨h.1, h.2.1, h.2.2.1, h.2.2.2⟩
theorem contains5 {z a b c d e : Str} (h : [a, b, c, d, e].contains z = false) : z ≠ a ∧ z ≠ b ∧ z ≠ c ∧ z ≠ d ∧ z ≠ e := by
  simp only [List.contains_cons, List.contains_nil, Bool.or_false, Bool.or_eq_false_iff, beq_eq_false_iff_ne, ne_eq] at h
  exact ⟨h.1, h.2.1, h.2.2.1, h.2.2.2.1, h.2.2.2.2⟩
theorem contains1 {z a : Str} (h : z ≠ a) : ¬ ([a].contains z = true) := by simpa using h
theorem led_swap {Lg hc it1 : Addr} {io1 : Obj} {F base : List (Addr × Obj)} {d : DS} : ∀ p ∈ (it1, io1) :: LedI Lg hc F base d, p ∈ LedI Lg hc ((it1, io1) :: F) base d := by
  intro p hp
  simp only [LedI, List.mem_cons, List.cons_append] at hp ⊢
  rcases hp with h | h | h | h <;> simp [h]
theorem take_ext {K : List (List Int)} {i j : Nat} {T : List TI} {x : TI} (h : T.map (·.tx.ns) = runT K i) (hx : T[j]? = some x) : ((runT K i).take j).flatMap ext ++ (ext x.tx.ns).take 2 = ((runT K i).take (j + 1)).flatMap ext := by
  have h1 : (runT K i)[j]? = some x.tx.ns := by rw [← h, List.getElem?_map, hx]; rfl
  rw [List.take_add_one (l := runT K i), h1, List.flatMap_append]
  congr 1
theorem sum_wt {v0 v1 : Int} {j : List (Addr × Obj)} {U : List TI} (h : ∀ x ∈ U, x.Ok v0 v1 j) : (U.map (·.wt)).sum = sumT v0 v1 (U.map (·.tx.ns)) := by
  unfold sumT
  rw [List.map_map]
  congr 1
  exact List.map_congr_left fun x hx => (h x hx).wt
theorem ook_next {K : List (List Int)} {v0 v1 : Int} {RA : List Nat} {Lg hc it0 S wc : Nat} {base junk₀ : List (Addr × Obj)} {i : Nat} {d : DS} {svs : List Value} {sn : Nat} {t : Tok}
    (hD : DOk K v0 v1 RA (Lg :: hc :: it0 :: S :: wc :: RA) junk₀ base i ((runT K i).flatMap ext) d) (hs : IntsAre svs (sumsA K v0 v1 i)) (hnd : (Lg :: hc :: it0 :: S :: wc :: RA : List Nat).Nodup) :
    OOk K v0 v1 RA (S :: hc :: wc :: RA) base (i + 1) ⟨Lg, d.nl, d.U, svs ++ [.int (d.U.map (·.wt)).sum t], sn, d.oh, d.rows, (Lg, listOf (tupsOf d.U).toArray d.nl) :: d.junk⟩ where
  hR := .head _
  hT := fun x hx => (hD.hU x hx).mono fun p hp => .tail _ hp
  hTn := by rw [runT_succ]; exact hD.hUn
  hs := by
    rw [sumsA_succ, runT_succ, ← hD.hUn, ← sum_wt hD.hU]
    exact IntsAre.snoc hs _ _
  ra := hD.ra
  ri := hD.ri
  rn := by
    rw [hD.rn]
    exact List.map_congr_left fun r _ => rowP_full K v0 v1 i r
  oh := hD.oh
  ap := by
    simp only [List.nodup_cons, List.mem_cons, not_or] at hnd
    intro p hp a ha
    rcases List.mem_cons.mp hp with rfl | hp
    · simp only [List.mem_cons] at ha
      rcases ha with rfl | rfl | rfl | h
      · exact hnd.1.2.2.1
      · exact hnd.1.1
      · exact hnd.1.2.2.2.1
      · intro e
        have e : Lg = a := e
        subst e
        exact hnd.1.2.2.2.2 h
    · refine hD.ap p hp a ?_
      simp only [List.mem_cons] at ha ⊢
      rcases ha with h | h | h | h <;> simp [h]
theorem apart_O {S hc wc : Nat} {RA : List Nat} (hnd : (S :: hc :: wc :: RA).Nodup) : S ∉ RA ∧ @Ne Nat S wc := by
  simp only [List.nodup_cons, List.mem_cons, not_or] at hnd
  exact ⟨hnd.1.2.2, hnd.1.2.1⟩
theorem pack9 {h₀ h : Heap} {Lf Da Lg hc it0 S wc Rr : Addr} {oD oL oh io0 ow rO : Obj} {svs : List Value} {v : Value} {n nl : Nat} {U : List TI} {rows : List WI} {junk base : List (Addr × Obj)}
    (N : News h₀ Lf h ((Da, oD) :: (Lg, oL) :: (hc, oh) :: (it0, io0) :: (S, listOf (svs.toArray.push v) n) :: (wc, ow) :: (Rr, rO) :: (entsOf rows ++ (junk ++ base)))) :
    News h₀ Lf h ((it0, io0) :: LedO S hc wc ow base ⟨Lg, nl, U, svs ++ [v], n, oh, rows, (Lg, oL) :: junk⟩) := by
  intro p hp
  refine N p ?_
  have e : (svs ++ [v]).toArray = svs.toArray.push v := by simp
  simp only [LedO, List.mem_cons, List.mem_append, e] at hp ⊢
  rcases hp with h | h | h | h | h | (h | h) | h <;> simp [h]
theorem ledO_ne {K : List (List Int)} {v0 v1 : Int} {RA : List Nat} {Lg hc it0 S wc : Nat} {ow oL : Obj} {base junk₀ : List (Addr × Obj)} {i nl sn : Nat} {d : DS} {cs : List (List Int)} {svs : List Value} {c : OS}
    (ho : ∀ p ∈ LedO S hc wc ow base c, p.1 ≠ it0) (hra : d.rows.map (·.a) = c.rows.map (·.a)) (hD : DOk K v0 v1 RA (Lg :: hc :: it0 :: S :: wc :: RA) junk₀ base i cs d) (hL : @Ne Nat Lg it0) :
    ∀ p ∈ LedO S hc wc ow base ⟨Lg, nl, d.U, svs, sn, d.oh, d.rows, (Lg, oL) :: d.junk⟩, p.1 ≠ it0 := by
  intro p hp
  simp only [LedO, List.mem_cons, List.mem_append] at hp
  rcases hp with rfl | rfl | rfl | h | (rfl | h) | h
  · exact ho (S, listOf c.svs.toArray c.sn) (.head _)
  · exact ho (hc, c.oh) (.tail _ (.head _))
  · exact ho (wc, ow) (.tail _ (.tail _ (.head _)))
  · obtain ⟨r, hr, rfl⟩ := List.mem_map.mp h
    obtain ⟨q, hq, e⟩ := row_of hra hr
    rw [show r.ent.1 = q.ent.1 from e.symm]
    exact ho q.ent (.tail _ (.tail _ (.tail _ (List.mem_append_left _ (List.mem_map_of_mem hq)))))
  · exact hL
  · exact hD.ap p (List.mem_append_left _ h) _ (.tail _ (.tail _ (.head _)))
  · exact hD.ap p (List.mem_append_right _ h) _ (.tail _ (.tail _ (.head _)))
theorem contains4n {z a b c d : Str} (h1 : z ≠ a) (h2 : z ≠ b) (h3 : z ≠ c) (h4 : z ≠ d) : ¬ ([a, b, c, d].contains z = true) := by
  simp [h1, h2, h3, h4]
theorem pack10 {h₀ h : Heap} {Lf : Addr} {S L : Nat} {ow : Obj} {base : List (Addr × Obj)} {c : OS} {K : List (List Int)} {v0 v1 : Int} {RA : List Nat} {i : Nat} (N : News h₀ Lf h (LedO S (L + 1 + 1 + 1) (L + 1 + 1) ow base c)) (hP : OOk K v0 v1 RA (S :: (L + 1 + 1 + 1) :: (L + 1 + 1) :: RA) base i c) (hnd : (S :: (L + 1 + 1 + 1) :: (L + 1 + 1) :: RA : List Nat).Nodup) :
    ∃ b6 : List (Addr × Obj), News h₀ Lf h ((L + 1 + 1, ow) :: b6) ∧ ((S, listOf c.svs.toArray c.sn) : Addr × Obj) ∈ b6 ∧ (∀ r ∈ c.rows, r.ent ∈ b6) ∧ (∀ p ∈ base, p ∈ b6) ∧ (∀ p ∈ b6, @Ne Nat p.1 (L + 1 + 1)) := by
  refine ⟨(S, listOf c.svs.toArray c.sn) :: (L + 1 + 1 + 1, c.oh) :: (entsOf c.rows ++ (c.junk ++ base)), ?_, .head _, fun r hr => .tail _ (.tail _ (List.mem_append_left _ (List.mem_map_of_mem hr))), fun p hp => .tail _ (.tail _ (List.mem_append_right _ (List.mem_append_right _ hp))), ?_⟩
  · intro p hp
    refine N p ?_
    simp only [LedO, List.mem_cons] at hp ⊢
    rcases hp with h | h | h | h <;> simp [h]
  · simp only [List.nodup_cons, List.mem_cons, not_or] at hnd
    intro p hp
    rcases List.mem_cons.mp hp with rfl | hp
    · exact hnd.1.2.1
    rcases List.mem_cons.mp hp with rfl | hp
    · exact hnd.2.1.1
    rcases List.mem_append.mp hp with hp | hp
    · obtain ⟨r, hr, rfl⟩ := List.mem_map.mp hp
      intro e
      exact hnd.2.2.1 (hP.ra ▸ e ▸ List.mem_map_of_mem hr)
    · exact hP.ap p hp _ (.tail _ (.tail _ (.head _)))
end Mine
end
section
namespace Mine
def rungS (y : List Int) : Str := if y.isEmpty then Str.ofString "local" else textF y ++ Str.ofString ".local"
abbrev aboveS (y : List Int) : Str := Str.ofString "." ++ rungS (y.drop 1)
def preW (y w : List Int) : Bool := decide (y.length ≤ w.length) && y == w.take y.length
def chkRc (a r : Str) : Bool := decide (a.cps.size ≤ 1000) && ipChk a && reachF a == r
theorem rcIs_of {a r : Str} (h : chkRc a r = true) : RcIs a r := by
  unfold chkRc at h
  simp only [Bool.and_eq_true, decide_eq_true_eq, beq_iff_eq] at h
  exact ⟨⟨h.1.1, ipOk_of h.1.2⟩, h.2⟩
def chkDm (a b : Str) (v : Bool) : Bool := asc a && asc b && decide (a.cps.size ≤ 1000) && decide (b.cps.size ≤ 1000) && ipChk (loS a) && decide ((Txt.slice (loS b) (some 1) none).cps.size ≤ 1000) && ipChk (Txt.slice (loS b) (some 1) none) && dmA a b == v
theorem dmIs_of {a b : Str} {v : Bool} (h : chkDm a b v = true) : DmIs a b v := by
  unfold chkDm at h
  simp only [Bool.and_eq_true, decide_eq_true_eq, beq_iff_eq] at h
  obtain ⟨⟨⟨⟨⟨⟨⟨h1, h2⟩, h3⟩, h4⟩, h5⟩, h6⟩, h7⟩, h8⟩ := h
  have ea := lower_eq h1
  have eb := lower_eq h2
  refine ⟨⟨h3, h4, by rw [ea]; exact ipOk_of h5, ?_, by rw [eb]; exact ipOk_of h7⟩, ?_⟩
  · rw [eb]; exact Nat.le_trans h6 (by decide)
  · rw [← h8]; unfold dmF dmA; rw [ea, eb]
def chkUd (a b : Str) (v : Bool) : Bool := asc a && asc b && decide (a.cps.size ≤ 1000) && decide (b.cps.size ≤ 1000) && ipChk (loS a) && ipChk (loS b) && udmA a b == v
theorem udIs_of {a b : Str} {v : Bool} (h : chkUd a b v = true) : UdIs a b v := by
  unfold chkUd at h
  simp only [Bool.and_eq_true, decide_eq_true_eq, beq_iff_eq] at h
  obtain ⟨⟨⟨⟨⟨⟨h1, h2⟩, h3⟩, h4⟩, h5⟩, h6⟩, h7⟩ := h
  have ea := lower_eq h1
  have eb := lower_eq h2
  refine ⟨⟨h3, h4, by rw [ea]; exact ipOk_of h5, by rw [eb]; exact ipOk_of h6⟩, ?_⟩
  rw [← h7]; unfold udmF udmA; rw [ea, eb]
/-- the arms' facts -/
def chkArms (x H S : Str) (v : Bool) : Bool :=
  decide (x.length ≤ 100) && decide (H.length ≤ 200) && decide ((hostL x).length ≤ 200) && decide (S.length ≤ 200) && asc (hostL x) && upS (hostL x) == H && asc H && loS H == S &&
  chkDm (H ++ Str.ofString ".7") (S ++ Str.ofString ".7") true && chkUd H S true && chkUd (H ++ Str.ofString ".7") (S ++ Str.ofString ".7") true && chkDm H x false && chkDm H (Str.ofString "." ++ x ++ Str.ofString ".") false &&
  chkDm (H ++ Str.ofString ".7") (Str.ofString "." ++ x) false && chkDm (Str.ofString "." ++ H) (Str.ofString "." ++ x) false && chkUd H (Str.ofString "." ++ x) false && chkUd H (x ++ Str.ofString ".local") false && chkUd (H ++ Str.ofString ".7") (Str.ofString ".7") false &&
  chkDm H (Txt.slice (Str.ofString "." ++ x) none (some (-1))) v && (Txt.slice x (some (-2)) none == Str.ofString "Ba") == v && chkRc (H ++ Str.ofString ".7") (H ++ Str.ofString ".7") && chkRc (Str.ofString "a.com") (Str.ofString "a.com") && chkRc (Str.ofString "local") (Str.ofString "local") &&
  PyData.strOk (H ++ Str.ofString ".7")
theorem arms_of {x H S : Str} {v : Bool} (h : chkArms x H S v = true) : ArmsOk x H S v := by
  unfold chkArms at h
  simp only [Bool.and_eq_true, decide_eq_true_eq, beq_iff_eq] at h
  obtain ⟨⟨⟨⟨⟨⟨⟨⟨⟨⟨⟨⟨⟨⟨⟨⟨⟨⟨⟨⟨⟨⟨⟨a1, a2⟩, a3⟩, a4⟩, a5⟩, a6⟩, a7⟩, a8⟩, b1⟩, b2⟩, b3⟩, b4⟩, b5⟩, b6⟩, b7⟩, b8⟩, b9⟩, b10⟩, b11⟩, b12⟩, c1⟩, c2⟩, c3⟩, c4⟩ := h
  exact ⟨a1, a2, a3, a4, by rw [upper_eq a5]; exact a6, by rw [lower_eq a7]; exact a8, dmIs_of b1, udIs_of b2, udIs_of b3, dmIs_of b4, dmIs_of b5, dmIs_of b6, dmIs_of b7, udIs_of b8, udIs_of b9, udIs_of b10, dmIs_of b11, b12, rcIs_of c1, rcIs_of c2, rcIs_of c3, c4⟩
theorem gA : (words14.all fun w => chkArms (textF w) (upS (hostL (textF w))) (loS (upS (hostL (textF w)))) (Txt.slice (textF w) (some (-2)) none == Str.ofString "Ba")) = true := by decide +kernel
theorem gR : (words14.all fun y => decide ((rungS y).length ≤ 100) && Txt.slice (rungS y) none (some (-6)) == textF y && chkRc (rungS y) (aboveS y) && decide ((aboveS y).length ≤ 100) && Txt.slice (aboveS y) none (some 1) == Str.ofString "." && Txt.slice (aboveS y) (some 1) none == rungS (y.drop 1)) = true := by decide +kernel
theorem gW : (words14.all fun y => decide ((textF y).length ≤ 100) && decide ((Txt.replace (textF y) (Str.ofString ".") (Str.ofString "/")).length ≤ 100) && decide ((Txt.replace (Txt.replace (textF y) (Str.ofString ".") (Str.ofString "/")) (Str.ofString "B") (Str.ofString "a")).length ≤ 100) && decide ((wayF (textF y)).length ≤ 100) && PyData.strOk (wayF (textF y)) && PyData.strOk (wayF (textF y) ++ Str.ofString "/")) = true := by decide +kernel
end Mine
end
section
namespace Mine
theorem gS : (words14.all fun y => words14.all fun w => subF (Str.ofString "h") (wayF (textF y)) (Str.ofString "h") (wayF (textF w)) == preW y w && subF (Str.ofString "hh") (wayF (textF y)) (Str.ofString "h") (wayF (textF w)) == false && subF (Str.ofString "h") (wayF (textF y)) (Str.ofString "hh") (wayF (textF w)) == false &&
  subF (Str.ofString "h") (wayF (textF y) ++ Str.ofString "/") (Str.ofString "h") (wayF (textF w)) == (preW y w && decide (y.length < w.length))) = true := by decide +kernel
theorem gD : (words14.all fun w => (List.range w.length).all fun j => words14.contains (w.drop j)) = true := by decide +kernel
/-- what is due of a word for each size, by the pairs looked at -/
def termP (K : List (List Int)) (v0 v1 : Int) (w : List Int) (size : Nat) (p : Nat × Nat) : Int := if overl (K.getD p.1 []) w p.2 then endW K v0 v1 p.1 (size + p.2) * worthF v0 v1 (w.drop p.2) else 0
def dueP (K : List (List Int)) (v0 v1 : Int) (w : List Int) (ps : List (Nat × Nat)) : List Int := (List.range (6 - w.length)).map fun size => (ps.map (termP K v0 v1 w size)).sum
def pairsOf (K : List (List Int)) (i : Nat) : List (Nat × Nat) := (List.range (K.getD i []).length).map fun j => (i, (K.getD i []).length - j)
def allPs (K : List (List Int)) : List (Nat × Nat) := (List.range K.length).flatMap (pairsOf K)
theorem worth_fold (v0 v1 : Int) : ∀ (b : List Int) (p : Int), b.foldl (fun p n => p * (if n = 0 then v0 else v1)) p = p * worthF v0 v1 b
  | [], p => by simp [worthF]
  | a :: r, p => by
    unfold worthF
    simp only [List.foldl_cons]
    rw [worth_fold v0 v1 r, worth_fold v0 v1 r (1 * _), Int.one_mul, Int.mul_assoc]
theorem worth_app (v0 v1 : Int) (a b : List Int) : worthF v0 v1 (a ++ b) = worthF v0 v1 a * worthF v0 v1 b := by
  show (a ++ b).foldl _ 1 = _
  rw [List.foldl_append, worth_fold]
  rfl
theorem sumT_map (v0 v1 : Int) (w : List Int) : ∀ l : List (List Int), sumT v0 v1 (l.map (· ++ w)) = sumT v0 v1 l * worthF v0 v1 w
  | [] => by simp [sumT]
  | a :: r => by
    have := sumT_map v0 v1 w r
    unfold sumT at this ⊢
    simp only [List.map_cons, List.sum_cons]
    rw [this, worth_app, Int.add_mul]
theorem sumT_app (v0 v1 : Int) (a b : List (List Int)) : sumT v0 v1 (a ++ b) = sumT v0 v1 a + sumT v0 v1 b := by
  unfold sumT; rw [List.map_append, List.sum_append]
theorem sumT_flat {α : Type} (v0 v1 : Int) (f : α → List (List Int)) : ∀ l : List α, sumT v0 v1 (l.flatMap f) = (l.map fun a => sumT v0 v1 (f a)).sum
  | [] => by simp [sumT]
  | a :: r => by rw [List.flatMap_cons, sumT_app, sumT_flat v0 v1 f r]; simp
theorem sumT_perm {v0 v1 : Int} {a b : List (List Int)} (h : a.Perm b) : sumT v0 v1 a = sumT v0 v1 b := by
  unfold sumT
  induction h with
  | nil => rfl
  | cons x _ ih => simp only [List.map_cons, List.sum_cons, ih]
  | swap x y l => simp only [List.map_cons, List.sum_cons]; omega
  | trans _ _ h1 h2 => exact h1.trans h2
theorem sum_flat {α β : Type} (f : α → List β) (g : β → Int) : ∀ l : List α, ((l.flatMap f).map g).sum = (l.map fun a => ((f a).map g).sum).sum
  | [] => rfl
  | a :: r => by rw [List.flatMap_cons, List.map_append, List.sum_append, sum_flat f g r]; simp
/-- Guibas and Odlyzko's law for the kept words -/
theorem due_law {K : List (List Int)} (hK : KOk K) {w : List Int} (hw : w ∈ K) (v0 v1 : Int) : dueP K v0 v1 w (allPs K) = (List.range (6 - w.length)).map fun size => sumT v0 v1 (runT K size) * worthF v0 v1 w := by
  unfold dueP
  refine List.map_congr_left fun size hs => ?_
  have h1 := List.all_eq_true.mp (List.all_eq_true.mp hK.law w hw) size hs
  have h2 := sumT_perm (v0 := v0) (v1 := v1) (List.isPerm_iff.mp h1)
  rw [sumT_map] at h2
  rw [h2]
  unfold dueT allPs pairsOf
  rw [sumT_flat, sum_flat]
  congr 1
  refine List.map_congr_left fun i _ => ?_
  rw [sumT_flat]
  simp only [List.map_map]
  congr 1
  refine List.map_congr_left fun j _ => ?_
  simp only [Function.comp, termP]
  split
  · rw [sumT_map]; rfl
  · simp [sumT]
end Mine
end
section
namespace Mine
section
variable {prog : Program} {w : World} {A : Around} {E : Value → Shared → Prop} {s : Shared} {env : Env} {h₀ : Heap} {x : Str} {body : List Stmt} {Q : Flow → Shared → Prop}
/-- a loop over a range down by ones -/
theorem iter_rngD {r : Addr} {a₀ b₀ : Int} {t₀ u₀ v₀ : Tok} {n : Nat} {m₀ : Str → Option Value} {led₀ : List (Addr × Obj)} (J : Nat → (Str → Option Value) → List (Addr × Obj) → Prop)
    (hh : A.handled = none) (hr : IsRange s.heap r a₀ b₀ (-1) t₀ u₀ v₀) (hsmall : Builtin.Range.small a₀ b₀ (-1) = true) (hn : Builtin.Range.rangeSize a₀ b₀ (-1) = (n : Int)) (F : Fr h₀ env.locals s.heap m₀) (N : News h₀ env.locals s.heap led₀) (hj : J 0 m₀ led₀)
    (turn : ∀ i t m₁ led₁ h tk (it : Addr) (io : Obj), i < n → J i m₁ led₁ → (∀ p ∈ led₁, p.1 ≠ it) → Fr h₀ env.locals h (fun y => if y = x then some (.int (a₀ + (i : Int) * (-1)) t) else m₁ y) → News h₀ env.locals h ((it, io) :: led₁) →
      wpAny (model prog w) A (execs body env) (LEnd h₀ env.locals (J (i + 1)) it io { s with heap := h, toks := tk } Q) E { s with heap := h, toks := tk })
    (done : ∀ m₁ led₁ h tk, J n m₁ led₁ → Fr h₀ env.locals h m₁ → News h₀ env.locals h led₁ → Q .next { s with heap := h, toks := tk }) :
    wpAny (model prog w) A (pyIter (.ref r)) (fun it s₂ => LoopAtV prog w A h₀ env x body Q E it s₂) E s := by
  refine wpAny_pyIter_range hr hsmall ?_
  have W : Walks prog w A s.heap.objs.size [s.heap.objs.size] [s.heap.objs.size] n (fun i v => i < n ∧ ∃ t, v = .int (a₀ + i * (-1)) t)
      (fun i h => IsRangeIter h s.heap.objs.size (a₀ + (i : Nat) * (-1)) ((n : Int) - (i : Nat)) (-1)) := (Walks.range hh _ a₀ (-1) n).bound
  have hItL : env.locals ≠ s.heap.objs.size := Nat.ne_of_lt F.ns.lt
  refine ⟨_, _, _, n, _, _, m₀, led₀, J, rfl, W, ?_, ?_, ?_, (by show IsRangeIter _ _ _ _ _; rw [hn]; simpa using Heap.get?_push_size _ rfl), F.push _, (fun p hp => ⟨Heap.get?_push_of_some _ (N p hp).1, (N p hp).2⟩), hj, ?_, ?_⟩
  · intro hm; exact hItL (List.mem_singleton.mp hm)
  · intro b hb
    rw [List.mem_singleton.mp hb]
    exact next_is_new F
  · intro p hp hI
    exact absurd (Heap.lt_size (N p hp).1) ((List.mem_singleton.mp hI) ▸ Nat.lt_irrefl _)
  · rintro i v m₁ led₁ s₁ own ⟨hh', tk', rfl⟩ hin ⟨_, t, rfl⟩ hJ hoff hown hget hall hst F₁ N₁
    obtain ⟨io, hio⟩ : ∃ io, hh'.get? s.heap.objs.size = some io := ⟨_, hst⟩
    have hItm : (s.heap.objs.size, io) ∈ own := hall _ (.head _) (next_is_new F) io hio
    have hoff' : ∀ p ∈ led₁, p.1 ≠ s.heap.objs.size := fun p hp e => hoff p hp (List.mem_singleton.mpr e)
    refine wpAny_mono (turn i t m₁ led₁ hh' tk' s.heap.objs.size io hin hJ hoff' F₁ (fun p hp => ?_)) (fun f s₂ q => ?_) fun _ _ e => e
    · rcases List.mem_cons.mp hp with rfl | hp
      · exact N₁ _ (List.mem_append_left _ hItm)
      · exact N₁ _ (List.mem_append_right _ hp)
    · have fin : (∃ h' tk m' led', s₂ = { ({ s with heap := hh', toks := tk' } : Shared) with heap := h', toks := tk } ∧ Fr h₀ env.locals h' m' ∧ News h₀ env.locals h' ((s.heap.objs.size, io) :: led') ∧ (∀ p ∈ led', p.1 ≠ s.heap.objs.size) ∧ J (i + 1) m' led') →
          LoopStepU h₀ env.locals [s.heap.objs.size] own (J (i + 1)) { s with heap := hh', toks := tk' } .next s₂ := by
        rintro ⟨h', tk, m', led', e, F', N', ho, hj'⟩
        refine ⟨rfl, h', tk, m', led', e, F', fun p hp => ?_, fun p hp q => ho p hp (List.mem_singleton.mp q), hj'⟩
        rcases List.mem_append.mp hp with h1 | h1
        · have hg := hget p h1
          have e1 := List.mem_singleton.mp (hown p h1)
          have : p = (s.heap.objs.size, io) := by
            obtain ⟨a, o⟩ := p
            simp only at e1 hg
            subst e1
            rw [hio] at hg
            cases hg; rfl
          subst this
          exact N' _ (.head _)
        · exact N' _ (.tail _ h1)
      cases f with
      | ret v => exact .ret q
      | brk => exact .brk q
      | next => exact .next (fin q)
      | cont => exact .cont (fin q)
  · intro h' tk m' led' F' N' _ hJ
    exact done m' led' h' tk hJ F' N'
theorem st_rngD {σ : Type} {r : Addr} {a₀ b₀ : Int} {t₀ u₀ v₀ : Tok} {n : Nat} {m₀ : Str → Option Value} (Led : σ → List (Addr × Obj)) (ps : σ → List (Str × Value)) (stored : List Str) (P : Nat → σ → Prop) (c₀ : σ)
    (hh : A.handled = none) (hr : IsRange s.heap r a₀ b₀ (-1) t₀ u₀ v₀) (hsmall : Builtin.Range.small a₀ b₀ (-1) = true) (hn : Builtin.Range.rangeSize a₀ b₀ (-1) = (n : Int)) (F : Fr h₀ env.locals s.heap m₀) (N : News h₀ env.locals s.heap (Led c₀)) (hk : ∀ p ∈ ps c₀, m₀ p.1 = some p.2) (hp : P 0 c₀)
    (turn : ∀ i t c (u : Str → Option Value) h tk (it : Addr) (io : Obj), i < n → P i c → (∀ p ∈ Led c, p.1 ≠ it) →
      Fr h₀ env.locals h (fun y => if y = x then some (.int (a₀ + (i : Int) * (-1)) t) else kstB (fun z => if stored.contains z then u z else m₀ z) (ps c) y) → News h₀ env.locals h ((it, io) :: Led c) →
      wpAny (model prog w) A (execs body env) (LEnd h₀ env.locals (StJ Led ps x stored m₀ P (i + 1)) it io { s with heap := h, toks := tk } Q) E { s with heap := h, toks := tk })
    (done : ∀ c (u : Str → Option Value) h tk, P n c → Fr h₀ env.locals h (fun y => if y = x then u y else kstB (fun z => if stored.contains z then u z else m₀ z) (ps c) y) → News h₀ env.locals h (Led c) → Q .next { s with heap := h, toks := tk }) :
    wpAny (model prog w) A (pyIter (.ref r)) (fun it s₂ => LoopAtV prog w A h₀ env x body Q E it s₂) E s := by
  refine iter_rngD (StJ Led ps x stored m₀ P) hh hr hsmall hn F N ⟨c₀, rfl, hk, fun _ _ _ _ => rfl, hp⟩ ?_ ?_
  · rintro i t m₁ led₁ h tk it io hi ⟨c, rfl, h1, h2, hP⟩ ho F₁ N₁
    exact turn i t c m₁ h tk it io hi hP ho (kst_fr h1 h2 F₁) N₁
  · rintro m₁ led₁ h tk ⟨c, rfl, h1, h2, hP⟩ F₁ N₁
    exact done c m₁ h tk hP (kst_frOut h1 h2 F₁) N₁
end
theorem pack11 {h₀ h : Heap} {Lf pd Mx dx wc : Addr} {o ow : Obj} {hsh : Int} {tk : Tok} {base : List (Addr × Obj)} {m : Str → Option Value} (ps : List (Str × Value)) (N : News h₀ Lf h ((pd, o) :: (Mx, instObj 124 dx) :: (dx, dictOf [⟨hsh, .str (Str.ofString "passwd") tk, .ref pd⟩] 1) :: (wc, ow) :: base)) (h1 : @LT.lt Nat _ wc dx) (h2 : @LT.lt Nat _ dx Mx)
    (F : Fr h₀ Lf h m) (hm : ∀ p ∈ (Str.ofString "manager", .ref Mx) :: ps, m p.1 = some p.2) :
    ∃ (Mx dx pd : Addr) (hsh : Int) (tk : Tok) (m0 : Str → Option Value), News h₀ Lf h ((wc, ow) :: (Mx, instObj 124 dx) :: (dx, dictOf [⟨hsh, .str (Str.ofString "passwd") tk, .ref pd⟩] 1) :: base) ∧ @LT.lt Nat _ wc dx ∧ @LT.lt Nat _ dx Mx ∧ Fr h₀ Lf h (kstB m0 ((Str.ofString "manager", .ref Mx) :: ps)) := by
  obtain ⟨m0, F0⟩ := fr_any ((Str.ofString "manager", .ref Mx) :: ps) F hm
  refine ⟨Mx, dx, pd, hsh, tk, m0, ?_, h1, h2, F0⟩
  intro p hp
  refine N p ?_
  simp only [List.mem_cons] at hp ⊢
  rcases hp with h | h | h | h <;> simp [h]
/-- the word's own facts -/
structure WOk (K : List (List Int)) (x : WI) : Prop where
  inK : x.ns ∈ K
  in14 : x.ns ∈ words14
  hi : IntsAre x.vs x.ns
  h01 : ∀ n ∈ x.ns, n = 0 ∨ n = 1
  h3 : x.ns.length ≤ 3
  h10 : x.ns.length ≤ 10
  h20 : (textF x.ns).length ≤ 20
theorem wok {K : List (List Int)} (hK : KOk K) {KL : List WI} (hKs : KL.map (·.ns) = K) (hKI : ∀ x ∈ KL, IntsAre x.vs x.ns) {x : WI} (hx : x ∈ KL) : WOk K x := by
  have h1 : x.ns ∈ K := hKs ▸ List.mem_map_of_mem hx
  have h2 := hK.mem _ h1
  have h3 := inlen h2
  exact ⟨h1, h2, hKI x hx, in01 h2, h3.1, Nat.le_trans h3.1 (by decide), h3.2⟩
theorem arms_ok {w : List Int} (h : w ∈ words14) : ∃ H S v, ArmsOk (textF w) H S v := ⟨_, _, _, arms_of (List.all_eq_true.mp gA w h)⟩
theorem way_ok {w : List Int} (h : w ∈ words14) : (textF w).length ≤ 1000 ∧ (Txt.replace (textF w) (Str.ofString ".") (Str.ofString "/")).length ≤ 1000 ∧ (Txt.replace (Txt.replace (textF w) (Str.ofString ".") (Str.ofString "/")) (Str.ofString "B") (Str.ofString "a")).length ≤ 1000 ∧ (wayF (textF w)).length ≤ 100 ∧ PyData.strOk (wayF (textF w)) = true ∧ PyData.strOk (wayF (textF w) ++ Str.ofString "/") = true := by
  have := List.all_eq_true.mp gW w h
  simp only [Bool.and_eq_true, decide_eq_true_eq] at this
  exact ⟨Nat.le_trans this.1.1.1.1.1 (by decide), Nat.le_trans this.1.1.1.1.2 (by decide), Nat.le_trans this.1.1.1.2 (by decide), this.1.1.2, this.1.2, this.2⟩
theorem rep_ints (t : Tok) : ∀ k : Nat, IntsAre (List.replicate k [Value.int 0 t]).flatten (List.replicate k 0)
  | 0 => .nil
  | k + 1 => by
    rw [List.replicate_succ, List.flatten_cons, List.replicate_succ]
    exact .cons 0 t (rep_ints t k)
theorem dueP_nil (K : List (List Int)) (v0 v1 : Int) (w : List Int) : dueP K v0 v1 w [] = List.replicate (6 - w.length) 0 := by
  unfold dueP
  rw [List.eq_replicate_iff]
  refine ⟨by simp, ?_⟩
  intro b hb
  obtain ⟨k, _, rfl⟩ := List.mem_map.mp hb
  rfl
theorem drop_second {h₀ h : Heap} {L : Addr} {x y : Addr × Obj} {base : List (Addr × Obj)} (N : News h₀ L h (x :: y :: base)) : News h₀ L h (x :: base) := fun p hp => N p (by
  rcases List.mem_cons.mp hp with rfl | hp
  · exact .head _
  · exact .tail _ (.tail _ hp))
theorem gP : (words14.all fun w => decide (1 ≤ w.length)) = true := by decide +kernel
theorem word_pos {w : List Int} (h : w ∈ words14) : 1 ≤ w.length := by simpa using List.all_eq_true.mp gP w h
theorem rung_ne {y : List Int} (h : 1 ≤ y.length) : rungS y = textF y ++ Str.ofString ".local" := by
  cases y with
  | nil => simp at h
  | cons a r => rfl
theorem swap_head {h₀ h : Heap} {L : Addr} {x y : Addr × Obj} {base : List (Addr × Obj)} (N : News h₀ L h (x :: y :: base)) : News h₀ L h (y :: x :: base) := by
  intro p hp
  refine N p ?_
  simp only [List.mem_cons] at hp ⊢
  rcases hp with h | h | h <;> simp [h]
structure SubIs (n1 x n2 y : Str) (v : Bool) : Prop where
  pre : x.length ≤ 1000 ∧ y.length ≤ 1000 ∧ PyData.strOk n1 = true ∧ PyData.strOk n2 = true ∧ PyData.strOk x = true ∧ PyData.strOk y = true
  val : subF n1 x n2 y = v
theorem subV {w : World} {mean mg mb} {news : List (Addr × Obj)} {sf b t : Addr} {n1 n2 x y : Str} {u1 u2 u3 u4 : Tok} {v : Bool} (h : SubIs n1 x n2 y v) : Cl 2 w mean mg mb 121 ((t, tupO [.str n2 u3, .str y u4]) :: (b, tupO [.str n1 u1, .str x u2]) :: news) True [.ref sf, .ref b, .ref t] (fun _ => .bool v) := by
  intro dp un gd cn cs a' ccd cl outer A₀ base h₀ L m s Q E k1 k2 k3 k4 k5 kK _ kd ku ret
  exact sub k1 k2 k3 k4 k5 kK h.pre kd ku (fun t h' tk' F N => by rw [h.val]; exact ret t h' tk' F N)
theorem sub_facts {y w : List Int} (hy : y ∈ words14) (hw : w ∈ words14) : SubIs (Str.ofString "h") (wayF (textF y)) (Str.ofString "h") (wayF (textF w)) (preW y w) ∧ SubIs (Str.ofString "hh") (wayF (textF y)) (Str.ofString "h") (wayF (textF w)) false ∧ SubIs (Str.ofString "h") (wayF (textF y)) (Str.ofString "hh") (wayF (textF w)) false ∧
    SubIs (Str.ofString "h") (wayF (textF y) ++ Str.ofString "/") (Str.ofString "h") (wayF (textF w)) (preW y w && decide (y.length < w.length)) := by
  obtain ⟨_, _, _, a1, a2, a3⟩ := way_ok hy
  obtain ⟨_, _, _, b1, b2, _⟩ := way_ok hw
  have := List.all_eq_true.mp (List.all_eq_true.mp gS y hy) w hw
  simp only [Bool.and_eq_true, beq_iff_eq] at this
  obtain ⟨⟨⟨h1, h2⟩, h3⟩, h4⟩ := this
  have a1' := Nat.le_trans a1 (by decide : 100 ≤ 1000)
  have b1' := Nat.le_trans b1 (by decide : 100 ≤ 1000)
  have o1 : PyData.strOk (Str.ofString "h") = true := by decide +kernel
  have o2 : PyData.strOk (Str.ofString "hh") = true := by decide +kernel
  have hs : (Str.ofString "/").length = 1 := by decide
  exact ⟨⟨⟨a1', b1', o1, o1, a2, b2⟩, h1⟩, ⟨⟨a1', b1', o2, o1, a2, b2⟩, h2⟩, ⟨⟨a1', b1', o1, o2, a2, b2⟩, h3⟩, ⟨⟨by rw [str_app, hs]; omega, b1', o1, o1, a3, b2⟩, h4⟩⟩
theorem rung_facts {y : List Int} (hy : y ∈ words14) : (rungS y).length ≤ 100 ∧ Txt.slice (rungS y) none (some (-6)) = textF y ∧ RcIs (rungS y) (aboveS y) ∧ (aboveS y).length ≤ 100 ∧ Txt.slice (aboveS y) none (some 1) = Str.ofString "." ∧ Txt.slice (aboveS y) (some 1) none = rungS (y.drop 1) := by
  have := List.all_eq_true.mp gR y hy
  simp only [Bool.and_eq_true, beq_iff_eq, decide_eq_true_eq] at this
  obtain ⟨⟨⟨⟨⟨h1, h2⟩, h3⟩, h4⟩, h5⟩, h6⟩ := this
  exact ⟨h1, h2, rcIs_of h3, h4, h5, h6⟩
theorem drop_in {w : List Int} (hw : w ∈ words14) {j : Nat} (hj : j < w.length) : w.drop j ∈ words14 := by
  have := List.all_eq_true.mp (List.all_eq_true.mp gD w hw) j (List.mem_range.mpr hj)
  simpa using this
theorem contains2 {z a b : Str} (h : [a, b].contains z = false) : z ≠ a ∧ z ≠ b := by
  simp only [List.contains_cons, List.contains_nil, Bool.or_false, Bool.or_eq_false_iff, beq_eq_false_iff_ne, ne_eq] at h
  exact h
end Mine
end
section
namespace Mine
theorem contains6 {z a b c d e f : Str} (h : [a, b, c, d, e, f].contains z = false) : z ≠ a ∧ z ≠ b ∧ z ≠ c ∧ z ≠ d ∧ z ≠ e ∧ z ≠ f := by
  simp only [List.contains_cons, List.contains_nil, Bool.or_false, Bool.or_eq_false_iff, beq_eq_false_iff_ne, ne_eq] at h
  exact ⟨h.1, h.2.1, h.2.2.1, h.2.2.2.1, h.2.2.2.2.1, h.2.2.2.2.2⟩
theorem contains2n {z a b : Str} (h1 : z ≠ a) (h2 : z ≠ b) : ¬ ([a, b].contains z = true) := by simp [h1, h2]
theorem overl_pre {a w : List Int} {j : Nat} (h : j ≤ a.length) : overl a w (a.length - j) = preW (a.drop j) w := by
  unfold overl preW
  rw [List.length_drop, show a.length - (a.length - j) = j by omega]
theorem pairs_take {K : List (List Int)} {k j : Nat} {a : List Int} (ha : K.getD k [] = a) (hj : j < a.length) : (pairsOf K k).take (j + 1) = (pairsOf K k).take j ++ [(k, a.length - j)] := by
  have h : (pairsOf K k)[j]? = some (k, a.length - j) := by
    unfold pairsOf
    rw [ha, List.getElem?_map, List.getElem?_range hj]
    rfl
  rw [List.take_add_one, h]
  rfl
theorem pairs_all {K : List (List Int)} {k : Nat} {a : List Int} (ha : K.getD k [] = a) : (pairsOf K k).take a.length = pairsOf K k := by
  refine List.take_of_length_le ?_
  unfold pairsOf
  rw [ha]
  simp
theorem pairs_range (K : List (List Int)) (k : Nat) : (List.range k).flatMap (pairsOf K) ++ pairsOf K k = (List.range (k + 1)).flatMap (pairsOf K) := by
  rw [List.range_succ, List.flatMap_append]
  simp
theorem dueP_same {K : List (List Int)} {v0 v1 : Int} {w : List Int} {ps : List (Nat × Nat)} {p : Nat × Nat} (h : overl (K.getD p.1 []) w p.2 = false) : dueP K v0 v1 w (ps ++ [p]) = dueP K v0 v1 w ps := by
  unfold dueP
  refine List.map_congr_left fun size _ => ?_
  rw [List.map_append, List.sum_append]
  have : termP K v0 v1 w size p = 0 := by unfold termP; rw [h]; rfl
  simp [this]
/-- the due list when sizes up to i have been served of the pair p -/
def dueH (K : List (List Int)) (v0 v1 : Int) (w : List Int) (ps : List (Nat × Nat)) (p : Nat × Nat) (i : Nat) : List Int :=
  (List.range (6 - w.length)).map fun size => (ps.map (termP K v0 v1 w size)).sum + (if size < i then termP K v0 v1 w size p else 0)
theorem dueH_zero (K : List (List Int)) (v0 v1 : Int) (w : List Int) (ps : List (Nat × Nat)) (p : Nat × Nat) : dueH K v0 v1 w ps p 0 = dueP K v0 v1 w ps := by
  unfold dueH dueP
  refine List.map_congr_left fun size _ => ?_
  simp
theorem dueH_full (K : List (List Int)) (v0 v1 : Int) (w : List Int) (ps : List (Nat × Nat)) (p : Nat × Nat) : dueH K v0 v1 w ps p (6 - w.length) = dueP K v0 v1 w (ps ++ [p]) := by
  unfold dueH dueP
  refine List.map_congr_left fun size hs => ?_
  rw [if_pos (List.mem_range.mp hs), List.map_append, List.sum_append]
  simp
theorem dueH_len (K : List (List Int)) (v0 v1 : Int) (w : List Int) (ps : List (Nat × Nat)) (p : Nat × Nat) (i : Nat) : (dueH K v0 v1 w ps p i).length = 6 - w.length := by simp [dueH]
theorem dueH_step {K : List (List Int)} {v0 v1 : Int} {w : List Int} {ps : List (Nat × Nat)} {p : Nat × Nat} {i : Nat} (hi : i < 6 - w.length) : dueH K v0 v1 w ps p (i + 1) = (dueH K v0 v1 w ps p i).set i ((dueH K v0 v1 w ps p i).getD i 0 + termP K v0 v1 w i p) := by
  refine List.ext_getElem? fun k => ?_
  by_cases hk : k < 6 - w.length
  · have hg : ∀ i, (dueH K v0 v1 w ps p i)[k]? = some ((ps.map (termP K v0 v1 w k)).sum + (if k < i then termP K v0 v1 w k p else 0)) := fun i => by
      simp [dueH, List.getElem?_map, List.getElem?_range hk]
    by_cases e : k = i
    · subst e
      rw [List.getElem?_set_self (by rw [dueH_len]; exact hk), List.getD_eq_getElem?_getD, hg, hg]
      simp
    · rw [List.getElem?_set_ne (by omega), hg, hg]
      have : (k < i + 1) ↔ (k < i) := by omega
      simp [this]
  · rw [List.getElem?_eq_none (by rw [dueH_len]; omega), List.getElem?_eq_none (by rw [List.length_set, dueH_len]; omega)]
theorem rung_next {y : List Int} {j : Nat} {a : List Int} (h : y = a.drop j) : rungS (y.drop 1) = rungS (a.drop (j + 1)) := by
  subst h
  rw [List.drop_drop]
theorem kget {K : List (List Int)} {KL : List WI} {k : Nat} {x : WI} (h : KL.map (·.ns) = K) (hx : KL[k]? = some x) : K.getD k [] = x.ns := by
  rw [← h, List.getD_eq_getElem?_getD, List.getElem?_map, hx]; rfl
end Mine
end
section
namespace Mine
theorem sumT_bits {v0 v1 : Int} (h0 : Builtin.Int.intBits v0 ≤ BB) (h1 : Builtin.Int.intBits v1 ≤ BB) : ∀ l : List (List Int), (∀ t ∈ l, t.length ≤ 10) → Builtin.Int.intBits (sumT v0 v1 l) ≤ BB * 10 + 1 + l.length
  | [], _ => by show Builtin.Int.intBits 0 ≤ _; exact Nat.le_trans (by decide) (Nat.zero_le _)
  | a :: r, h => by
    have hr := sumT_bits h0 h1 r fun t ht => h t (.tail _ ht)
    have ha : Builtin.Int.intBits (worthF v0 v1 a) ≤ BB * 10 + 1 := by
      refine Nat.le_trans (worth_bits h0 h1 a) ?_
      have := Nat.mul_le_mul_left BB (h a (.head _))
      omega
    have e : sumT v0 v1 (a :: r) = worthF v0 v1 a + sumT v0 v1 r := by simp [sumT]
    rw [e]
    have := bits_add ha hr
    simp only [List.length_cons]
    omega
theorem endT_len {K : List (List Int)} {r : Nat} : ∀ k, ∀ t ∈ endT K r k, t.length = k
  | 0, _, h => nomatch h
  | k + 1, u, h => by
    obtain ⟨t, ht, hu⟩ := List.mem_flatMap.mp h
    have hu := (List.mem_filter.mp hu).1
    have e := (runT_len k t ht).1
    rcases List.mem_cons.mp hu with rfl | hu
    · simp [e]
    · rw [List.mem_singleton.mp hu]; simp [e]
theorem endT_le (K : List (List Int)) (r : Nat) : ∀ k, k ≤ 5 → (endT K r k).length ≤ 32
  | 0, _ => by show 0 ≤ 32; decide
  | k + 1, h => by
    rw [endT_succ]
    refine Nat.le_trans (List.length_filter_le _ _) ?_
    rw [flat_len]
    have h1 := runT_le K k
    have h2 : 2 ^ k ≤ 2 ^ 4 := Nat.pow_le_pow_right (by decide) (by omega)
    omega
theorem worth_bits10 {v0 v1 : Int} (h0 : Builtin.Int.intBits v0 ≤ BB) (h1 : Builtin.Int.intBits v1 ≤ BB) {t : List Int} (h : t.length ≤ 10) : Builtin.Int.intBits (worthF v0 v1 t) ≤ BB * 10 + 1 := by
  refine Nat.le_trans (worth_bits h0 h1 t) ?_
  have := Nat.mul_le_mul_left BB h
  omega
theorem mul_end {v0 v1 : Int} (h0 : Builtin.Int.intBits v0 ≤ BB) (h1 : Builtin.Int.intBits v1 ≤ BB) (K : List (List Int)) (r k : Nat) (hk : k ≤ 5) {t : List Int} (ht : t.length ≤ 10) : IntMulOk (endW K v0 v1 r k) (worthF v0 v1 t) := by
  have a := sumT_bits h0 h1 (endT K r k) fun u hu => by rw [endT_len k u hu]; omega
  have b := endT_le K r k hk
  refine mulOk_of_bits (m := BB * 10 + 1 + 32) (Nat.le_trans a (by omega)) (worth_bits10 h0 h1 ht) (by decide)
theorem mul_run {v0 v1 : Int} (h0 : Builtin.Int.intBits v0 ≤ BB) (h1 : Builtin.Int.intBits v1 ≤ BB) (K : List (List Int)) (k : Nat) (hk : k ≤ 5) {t : List Int} (ht : t.length ≤ 10) : IntMulOk (sumT v0 v1 (runT K k)) (worthF v0 v1 t) := by
  have a := sumT_bits h0 h1 (runT K k) fun u hu => by rw [(runT_len k u hu).1]; omega
  have b := runT_le K k
  have h2 : 2 ^ k ≤ 2 ^ 5 := Nat.pow_le_pow_right (by decide) hk
  refine mulOk_of_bits (m := BB * 10 + 1 + 32) (Nat.le_trans a (by omega)) (worth_bits10 h0 h1 ht) (by decide)
theorem ints_get {vs : List Value} {ns : List Int} (h : IntsAre vs ns) {m : Nat} {a : Int} (hm : ns[m]? = some a) : ∃ t, vs[m]? = some (.int a t) := by
  have e := IntsAre.length h
  have hlt : m < ns.length := by
    apply Nat.lt_of_not_le
    intro hge
    rw [List.getElem?_eq_none hge] at hm
    cases hm
  have hv : vs[m]? = some (vs[m]'(by omega)) := List.getElem?_eq_getElem (by omega)
  obtain ⟨n, t, e1, e2⟩ := IntsAre.at h m _ hv
  rw [hm] at e2
  cases e2
  exact ⟨t, by rw [hv, e1]⟩
theorem rowA_at {K : List (List Int)} {v0 v1 : Int} {k m : Nat} (hm : m ≤ 5) : (rowA K v0 v1 5 k)[m]? = some (endW K v0 v1 k m) := by
  have : m < 6 := by omega
  simp [rowA, List.getElem?_map, List.getElem?_range this, hm]
theorem row_get {K : List (List Int)} {v0 v1 : Int} {rows crows : List WI} {RA : List Nat} (h1 : rows.map (·.a) = RA) (h2 : crows.map (·.a) = RA) (h3 : crows.map (·.ns) = (List.range K.length).map (rowA K v0 v1 5)) {k : Nat} (hk : k < K.length) :
    ∃ rk ∈ crows, (refsOf rows)[((0 : Int) + (k : Int)).toNat]? = some (.ref rk.a) ∧ rk.ns = rowA K v0 v1 5 k := by
  have hl : k < crows.length := by
    have := congrArg List.length h3
    simp only [List.length_map, List.length_range] at this
    omega
  have hc : crows[k]? = some crows[k] := List.getElem?_eq_getElem hl
  refine ⟨crows[k], List.getElem_mem hl, ?_, ?_⟩
  · have := refs_same (rows := rows) (h2.trans h1.symm) hc
    rw [Int.zero_add]
    exact this
  · have : (crows.map (·.ns))[k]? = some crows[k].ns := by rw [List.getElem?_map, hc]; rfl
    rw [h3, List.getElem?_map, List.getElem?_range hk] at this
    simpa using this.symm
theorem sumsA_at {K : List (List Int)} {v0 v1 : Int} {m : Nat} (hm : m ≤ 5) : (sumsA K v0 v1 5)[m]? = some (sumT v0 v1 (runT K m)) := by
  have : m < 6 := by omega
  simp [sumsA, List.getElem?_map, List.getElem?_range this]
theorem term_val {K : List (List Int)} {v0 v1 : Int} {w y : List Int} {k j i : Nat} (hK : K.getD k [] = y) (hj : j < y.length) (hp : preW (y.drop j) w = true) : termP K v0 v1 w i (k, y.length - j) = endW K v0 v1 k (i + (y.length - j)) * worthF v0 v1 (w.drop (y.length - j)) := by
  unfold termP
  dsimp only
  rw [hK, overl_pre (Nat.le_of_lt hj), hp, if_pos rfl]
theorem pre_len {y w : List Int} (h : preW y w = true) : y.length ≤ w.length := by
  unfold preW at h
  simp only [Bool.and_eq_true, decide_eq_true_eq] at h
  exact h.1
end Mine
end
section
namespace Mine
theorem pack13 {h₀ h : Heap} {Lf a it5 Dz : Addr} {o io5 : Obj} {vs : List Value} {ns : List Int} {n : Nat} {rest : List (Addr × Obj)} (N : News h₀ Lf h ((a, o) :: (it5, io5) :: (Dz, listOf vs.toArray n) :: rest)) (hi : IntsAre vs ns) :
    ∃ vs', IntsAre vs' ns ∧ News h₀ Lf h ((it5, io5) :: (Dz, listOf vs'.toArray n) :: rest) := ⟨vs, hi, fun p hp => N p (.tail _ hp)⟩
end Mine
end
section
namespace Mine
theorem contains8 {z a b c d e f g h : Str} (H : [a, b, c, d, e, f, g, h].contains z = false) : z ≠ a ∧ z ≠ b ∧ z ≠ c ∧ z ≠ d ∧ z ≠ e ∧ z ≠ f ∧ z ≠ g ∧ z ≠ h := by
  simp only [List.contains_cons, List.contains_nil, Bool.or_false, Bool.or_eq_false_iff, beq_eq_false_iff_ne, ne_eq] at H
  exact ⟨H.1, H.2.1, H.2.2.1, H.2.2.2.1, H.2.2.2.2.1, H.2.2.2.2.2.1, H.2.2.2.2.2.2.1, H.2.2.2.2.2.2.2⟩
theorem contains11 {z a b c d e f g h i j k : Str} (H : [a, b, c, d, e, f, g, h, i, j, k].contains z = false) : (z ≠ a ∧ z ≠ b ∧ z ≠ c) ∧ [d, e, f, g, h, i, j, k].contains z = false := by
  simp only [List.contains_cons, Bool.or_eq_false_iff, beq_eq_false_iff_ne, ne_eq] at H ⊢
  exact ⟨⟨H.1, H.2.1, H.2.2.1⟩, H.2.2.2⟩
theorem contains6n {z a b c d e f : Str} (h1 : z ≠ a) (h2 : z ≠ b) (h3 : z ≠ c) (h4 : z ≠ d) (h5 : z ≠ e) (h6 : z ≠ f) : ¬ ([a, b, c, d, e, f].contains z = true) := by
  simp [h1, h2, h3, h4, h5, h6]
theorem due_all {K : List (List Int)} (hK : KOk K) {w : List Int} (hw : w ∈ K) (v0 v1 : Int) : dueP K v0 v1 w ((List.range K.length).flatMap (pairsOf K)) = (List.range (6 - w.length)).map fun size => sumT v0 v1 (runT K size) * worthF v0 v1 w := due_law hK hw v0 v1
theorem rung_end (y : List Int) : rungS (y.drop y.length) = Str.ofString "local" := by rw [List.drop_length]; rfl
end Mine
end
namespace Mine
structure C4 where
  a : Int
  b : Int
  c : Int
  d : Int
  ta : Tok
  tb : Tok
  tc : Tok
  td : Tok
  n : Nat
abbrev C4.obj (c : C4) : Obj := listOf #[.int c.a c.ta, .int c.b c.tb, .int c.c c.tc, .int c.d c.td] c.n
def C4.ok (i : Nat) (c : C4) : Prop := Builtin.Int.intBits c.a ≤ 1048576 + i ∧ Builtin.Int.intBits c.b ≤ 1048576 + i ∧ Builtin.Int.intBits c.c ≤ 1048576 + i ∧ Builtin.Int.intBits c.d ≤ 1048576 + i
theorem bits_step {a n : Int} {i : Nat} (ha : Builtin.Int.intBits a ≤ 1048576 + i) (hn : Builtin.Int.intBits n ≤ 1048576) : Builtin.Int.intBits (a + n) ≤ 1048576 + (i + 1) := by
  have := bits_add ha hn
  omega
theorem ok_a {c : C4} {i : Nat} {n : Int} {t : Tok} {k : Nat} (h : C4.ok i c) (hn : Builtin.Int.intBits n ≤ 1048576) : C4.ok (i + 1) ⟨c.a + n, c.b, c.c, c.d, t, c.tb, c.tc, c.td, k⟩ :=
  ⟨bits_step h.1 hn, Nat.le_succ_of_le h.2.1, Nat.le_succ_of_le h.2.2.1, Nat.le_succ_of_le h.2.2.2⟩
theorem ok_b {c : C4} {i : Nat} {n : Int} {t : Tok} {k : Nat} (h : C4.ok i c) (hn : Builtin.Int.intBits n ≤ 1048576) : C4.ok (i + 1) ⟨c.a, c.b + n, c.c, c.d, c.ta, t, c.tc, c.td, k⟩ :=
  ⟨Nat.le_succ_of_le h.1, bits_step h.2.1 hn, Nat.le_succ_of_le h.2.2.1, Nat.le_succ_of_le h.2.2.2⟩
theorem ok_c {c : C4} {i : Nat} {n : Int} {t : Tok} {k : Nat} (h : C4.ok i c) (hn : Builtin.Int.intBits n ≤ 1048576) : C4.ok (i + 1) ⟨c.a, c.b, c.c + n, c.d, c.ta, c.tb, t, c.td, k⟩ :=
  ⟨Nat.le_succ_of_le h.1, Nat.le_succ_of_le h.2.1, bits_step h.2.2.1 hn, Nat.le_succ_of_le h.2.2.2⟩
theorem ok_d {c : C4} {i : Nat} {n : Int} {t : Tok} {k : Nat} (h : C4.ok i c) (hn : Builtin.Int.intBits n ≤ 1048576) : C4.ok (i + 1) ⟨c.a, c.b, c.c, c.d + n, c.ta, c.tb, c.tc, t, k⟩ :=
  ⟨Nat.le_succ_of_le h.1, Nat.le_succ_of_le h.2.1, Nat.le_succ_of_le h.2.2.1, bits_step h.2.2.2 hn⟩
theorem off_head {a : Addr} {o o' : Obj} {r : List (Addr × Obj)} {it : Addr} (h : ∀ p ∈ (a, o) :: r, p.1 ≠ it) : ∀ p ∈ (a, o') :: r, p.1 ≠ it := by
  intro p hp
  rcases List.mem_cons.mp hp with rfl | hp
  · exact h (a, o) (.head _)
  · exact h _ (.tail _ hp)
theorem bits_getD {ns : List Int} (h : PyData.layable0 (.list (ns.map .int)) = true) (k : Nat) : Builtin.Int.intBits (ns.getD k 0) ≤ 1048576 := by
  by_cases hk : k < ns.length
  · rw [List.getD_eq_getElem?_getD, List.getElem?_eq_getElem hk]
    exact intBits_le_of_item (List.getElem_mem hk) h
  · rw [List.getD_eq_getElem?_getD, List.getElem?_eq_none (by omega)]
    decide
theorem hp0 (x y z t : Tok) : C4.ok 0 ⟨7, 11, 2, 3, x, y, z, t, 0⟩ := by
  refine ⟨?_, ?_, ?_, ?_⟩ <;> (dsimp only; decide)
theorem rng_small {n : Nat} (h : ¬ ((63 : Int) < (n : Int))) : Builtin.Range.small 0 (n : Int) 1 = true := small_one (by decide) (by decide) (by omega) (by omega)
theorem rng_size (n : Nat) : Builtin.Range.rangeSize 0 (n : Int) 1 = (n : Int) := (rangeSize_nat _ _).trans (congrArg Nat.cast (by omega : ((n : Int) - 0).toNat = n))
section
variable {prog : Program} {w : World} {A : Around} {E : Value → Shared → Prop} {s : Shared} {h₀ : Heap} {L : Addr} {news : List (Addr × Obj)}
theorem get_led {l : Addr} {vs : List Value} {nn : Nat} {k : Int} {u : Tok} {v : Value} {Q : Value → Shared → Prop} (N : News h₀ L s.heap news) (hm : (l, listOf vs.toArray nn) ∈ news)
    (h0 : 0 ≤ k) (hhi : k < 2 ^ 63) (hx : vs[k.toNat]? = some v) (h : Q v s) : wpAny (model prog w) A (getItem (.ref l) (.int k u)) Q E s :=
  have hl : s.heap.IsList l vs.toArray := ⟨_, (N _ hm).1, rfl, _, rfl⟩
  wpAny_getItem_list hl h0 hhi (by simpa using hx) h
theorem get_base {l : Addr} {vs : List Value} {k : Int} {u : Tok} {v : Value} {m : Str → Option Value} {Q : Value → Shared → Prop} (F : Fr h₀ L s.heap m) (hl : h₀.IsList l vs.toArray)
    (h0 : 0 ≤ k) (hhi : k < 2 ^ 63) (hx : vs[k.toNat]? = some v) (h : Q v s) : wpAny (model prog w) A (getItem (.ref l) (.int k u)) Q E s := by
  obtain ⟨o, ho, h1, h2⟩ := hl
  exact wpAny_getItem_list ⟨o, F.keep _ _ ho, h1, h2⟩ h0 hhi (by simpa using hx) h
theorem item_base {value slice : PySem.Expr} {l : Addr} {vs : List Value} {k : Int} {u : Tok} {v : Value} {m : Str → Option Value} {Q : Value → Shared → Prop} (F : Fr h₀ L s.heap m) (hl : h₀.IsList l vs.toArray)
    (h0 : 0 ≤ k) (hhi : k < 2 ^ 63) (hx : vs[k.toNat]? = some v) (h : Q v s)
    (hs : subscripted slice false (.ref l) (.int k u) = operate [.ref l, .int k u] (getItem (.ref l) (.int k u)) := by with_unfolding_all rfl) :
    wpAny (model prog w) A (subscriptTail value slice (.ref l) (.int k u)) Q E s := by
  obtain ⟨o, ho, h1, h2⟩ := hl
  have hl : s.heap.IsList l vs.toArray := ⟨o, F.keep _ _ ho, h1, h2⟩
  exact tail_any hl.typeIs PySem.F.slot_list_getitem.lookup (wpAny_getItem_list hl h0 hhi (by simpa using hx) h) hs
end
theorem ints_at {vs : List Value} {ns : List Int} (h : IntsAre vs ns) {i : Nat} (hi : i < ns.length) : ∃ n t, vs[((0 : Int) + (i : Int)).toNat]? = some (.int n t) ∧ n ∈ ns := by
  have e := IntsAre.length h
  have hv : vs[i]? = some (vs[i]'(by omega)) := List.getElem?_eq_getElem (by omega)
  obtain ⟨n, t, e1, e2⟩ := IntsAre.at h i _ hv
  exact ⟨n, t, by rw [Int.zero_add, Int.toNat_natCast, hv, e1], List.mem_of_getElem? e2⟩
end Mine
namespace Mine
/-- the words that stay -/
def keepW (ws : List (List Int)) (w : List Int) : Bool := ws.all fun o => o == w || !infx o w
theorem mem_swap2 {it a1 a2 a3 a4 a5 : Addr} {p2 p3 p4 p5 : Obj} {base : List (Addr × Obj)} (h : @Ne Nat a1 it ∧ @Ne Nat a2 it ∧ @Ne Nat a3 it ∧ @Ne Nat a4 it ∧ @Ne Nat a5 it ∧ ∀ p ∈ base, @Ne Nat p.1 it) {p : Addr × Obj} (hp : p ∈ (a2, p2) :: (a3, p3) :: (a4, p4) :: (a5, p5) :: base) : p.1 ≠ it := by
  rcases List.mem_cons.mp hp with rfl | hp
  · exact h.2.1
  rcases List.mem_cons.mp hp with rfl | hp
  · exact h.2.2.1
  rcases List.mem_cons.mp hp with rfl | hp
  · exact h.2.2.2.1
  rcases List.mem_cons.mp hp with rfl | hp
  · exact h.2.2.2.2.1
  · exact h.2.2.2.2.2 p hp
theorem kept_map (WL : List WI) {k : Nat} (hk : WL.length ≤ k) : ((WL.take k).filter (fun x => keepW (WL.map (·.ns)) x.ns)).map (·.ns) = keptOf (WL.map (·.ns)) := by
  rw [List.take_of_length_le hk]
  unfold keptOf
  rw [List.filter_map]
  rfl
theorem take_filter {α : Type} {p : α → Bool} {l : List α} {j : Nat} {o : α} (h : l[j]? = some o) : (l.take (j + 1)).filter p = (l.take j).filter p ++ (if p o = true then [o] else []) := by
  rw [List.take_add_one, h, List.filter_append]
  congr 1
  simp only [Option.toList, List.filter_cons, List.filter_nil]
theorem keep_eq (WL : List WI) (w : List Int) {k : Nat} (hk : WL.length ≤ k) : decide ((WL.take k).filter (fun o => !(o.ns == w) && infx o.ns w) = []) = keepW (WL.map (·.ns)) w := by
  rw [List.take_of_length_le hk]
  unfold keepW
  rw [List.all_map]
  induction WL with
  | nil => rfl
  | cons x r ih =>
    have ih := ih (Nat.le_trans (Nat.le_succ _) hk)
    rw [List.all_cons, ← ih]
    simp only [List.filter_cons]
    by_cases h : (!(x.ns == w) && infx x.ns w) = true
    · rw [if_pos h]
      simp only [Bool.and_eq_true, Bool.not_eq_true'] at h
      simp [h.1, h.2]
    · rw [if_neg h]
      have : ((fun o : List Int => o == w || !infx o w) ∘ fun z : WI => z.ns) x = true := by
        simp only [Function.comp]
        revert h
        cases x.ns == w <;> cases infx x.ns w <;> simp
      rw [this, Bool.true_and]
end Mine
namespace Mine
theorem ints_getZ {vs : List Value} {ns : List Int} {q : Nat} {a : Int} (h : IntsAre vs ns) (hm : ns[q]? = some a) : ∃ t, vs[((0 : Int) + (q : Int)).toNat]? = some (.int a t) := by
  rw [show ((0 : Int) + (q : Int)).toNat = q by omega]
  exact ints_get h hm
end Mine
open Mine
local macro_rules | `(tactic| kst_same) => `(tactic| (intro z h1 h2 h3; (try simp only [List.forall_mem_cons, List.not_mem_nil, false_implies, implies_true, and_true, ne_eq] at h2); (try simp only [List.contains_cons, List.contains_nil, Bool.or_false, Bool.or_eq_false_iff, beq_eq_false_iff_ne, ne_eq] at h3); simp [kstB, h1, h2, h3]; done))
local macro_rules | `(tactic| walk_at "subscriptTail") => `(tactic| (k_here; (with_reducible show wpAny _ _ (subscriptTail _ _ (Value.ref _) (Value.int _ _)) _ _ _); (with_unfolding_all refine' item_base ?F ?hl ?h0 ?hhi ?hx ?_ ?k6; (case F => k_asm); (case hl => with_reducible assumption); (case h0 => omega); (case hhi => omega); (case hx => with_reducible assumption); (case k6 => with_unfolding_all rfl); k_whole)))
local macro_rules | `(tactic| walk_at "getItem ref int") => `(tactic| (k_here; (with_unfolding_all refine' get_led ?N ?hm ?h0 ?hhi ?hx ?_; (case N => k_asm); (case hm => first | kst_mem | k_mem); (case h0 => decide); (case hhi => decide); (case hx => exact rfl); k_whole)))
local macro_rules | `(tactic| walk_at "exec For Name Call cons nil") => `(tactic| (k_here; (rename Fr _ _ _ _ => lF'); (with_unfolding_all refine' For_invVF lF' ?k1 ?k2 ?_; (case k1 => exact rfl); (case k2 => exact rfl); k_whole)))
local macro_rules | `(tactic| walk_at "exec For Name Name cons nil") => `(tactic| (k_here; (rename Fr _ _ _ _ => lF'); (with_unfolding_all refine' For_invVF lF' ?k1 ?k2 ?_; (case k1 => exact rfl); (case k2 => exact rfl); k_whole)))
local macro_rules | `(tactic| walk_at "eval ListComp") => `(tactic| (k_here; k_dflt (refine LCg.ListComp_U (F₀ := by k_asm) (by rfl) (by decide) (by rfl) (by decide) (by rfl) ?_)))
local macro_rules | `(tactic| k_all) => `(tactic| with_reducible assumption)
local macro_rules | `(tactic| walk_at "call ref") => `(tactic| (k_here; (with_reducible show wpAny _ _ (call (Value.ref 57) _) _ _ _); k_dflt ((refine' dmV ?hv ?k1 ?k2 ?k3 ?k4 ?k5 ?kK trivial ?kd ?ku ?_); (case hv => with_reducible assumption); (case k1 => k_asm); (case k2 => k_asm); (case k3 => k_asm); (case k4 => k_asm); (case k5 => k_asm); (case kK => first | exact rfl | assumption); (case kd => ktr_room); (case ku => ktr_units); k_whole); intro t9 h9 tk9 F9 N9; (try dsimp only)))
local macro_rules | `(tactic| walk_at "compareOp NotEq ref ref") => `(tactic| (k_here; k_dflt ((refine' ne_ints ?N ?a ?b ?ga ?gb ?u ?_); (case N => k_asm); (case a => kst_mem); (case b => kst_mem); (case ga => with_reducible assumption); (case gb => with_reducible assumption); (case u => ktr_units)); (try dsimp only)))
local macro_rules | `(tactic| walk_at "exec Assign cons ListComp") => `(tactic| (k_here; k_dflt (refine LCg.Assign_ListComp_U (F₀ := by k_asm) (by rfl) (by with_unfolding_all rfl) (by with_unfolding_all rfl) (by decide) (by rfl) (by decide) (by rfl) (by rfl) (by rfl) ?_)))
local macro_rules | `(tactic| k_mem) => `(tactic| (refine' toMem ?_; with_reducible assumption))
local macro_rules | `(tactic| walk_at "call ref") => `(tactic| (k_here; (with_reducible show wpAny _ _ (call (Value.ref 138) _) _ _ _); k_dflt ((refine' text ?hl ?hi ?h01 ?hlen ?k1 ?k2 ?k3 ?k4 ?k5 ?kK trivial ?kd ?ku ?_); (case k1 => k_asm); (case k2 => k_asm); (case k3 => k_asm); (case k4 => k_asm); (case hl => first | k_mem | kst_mem); (case hi => with_reducible assumption); (case h01 => with_reducible assumption); (case hlen => with_reducible assumption); (case k5 => k_asm); (case kK => first | exact rfl | assumption); (case kd => ktr_room); (case ku => ktr_units); k_whole); intro t9 h9 tk9 F9 N9; (try dsimp only)))
local macro_rules | `(tactic| walk_at "call builtin:str.upper") => `(tactic| (k_here; k_dflt ((refine' upV ?h ?l ?_); (case h => first | with_reducible assumption | assumption); (case l => first | with_reducible assumption | assumption))))
local macro_rules | `(tactic| walk_at "binaryOp Add ref ref") => `(tactic| (k_here; (with_reducible show wpAny _ _ (binaryOp _ (Value.ref _) (Value.ref _)) _ _ _); k_dflt ((refine' kmk_add_ints ?F ?N ?a ?b ?i ?j ?_ ?z); (case F => k_asm); (case N => k_asm); (case a => (refine' isL_of ?nN ?nm; (case nN => k_asm); (case nm => k_mem))); (case b => (refine' isL_of ?nN ?nm; (case nN => k_asm); (case nm => k_mem))); (case i => with_reducible assumption); (case j => with_reducible assumption); (case z => (rw [PySem.sizeLine_eq]; simp only [List.length_cons, List.length_nil]; omega))); intro D' us' h' F' N' l1 hus'; (try k_lt l1)))
local macro_rules | `(tactic| walk_at "call ref") => `(tactic| (k_here; (with_reducible show wpAny _ _ (call (Value.ref 71) _) _ _ _); k_dflt ((refine' udmV ?hv ?k1 ?k2 ?k3 ?k4 ?k5 ?kK trivial ?kd ?ku ?_); (case hv => with_reducible assumption); (case k1 => k_asm); (case k2 => k_asm); (case k3 => k_asm); (case k4 => k_asm); (case k5 => k_asm); (case kK => first | exact rfl | assumption); (case kd => ktr_room); (case ku => ktr_units); k_whole); intro t9 h9 tk9 F9 N9; (try dsimp only)))
local macro_rules | `(tactic| walk_at "subscriptTail") => `(tactic| (k_here; (with_reducible show wpAny _ _ (subscriptTail _ _ (Value.ref _) (Value.int _ _)) _ _ _); k_dflt ((refine' item_led ?k0 ?k1 ?k2 ?k3 ?k4 ?_ ?k6); (case k0 => k_asm); (case k1 => k_mem); (case k2 => omega); (case k3 => omega); (case k4 => with_reducible assumption); (case k6 => with_unfolding_all rfl); k_whole)))
local macro_rules | `(tactic| walk_at "call builtin:list.index") => `(tactic| (k_here; k_dflt ((refine' index_found ?N ?a ?l ?K ?f ?_); (case N => k_asm); (case a => k_mem); (case l => with_reducible assumption); (case K => with_reducible assumption); (case f => with_reducible assumption))))
local macro_rules | `(tactic| walk_at "getItem ref int") => `(tactic| (k_here; (with_reducible show wpAny _ _ (getItem (Value.ref _) (Value.int _ _)) _ _ _); k_dflt ((refine' ksa_get ?k1 ?k2 ?k3 ?k4 ?k5 ?k6 ?_); (case k1 => k_asm); (case k2 => k_mem); (case k3 => with_reducible assumption); (case k4 => omega); (case k5 => omega); (case k6 => omega); k_whole); intro _))
local macro_rules | `(tactic| walk_at "call ref") => `(tactic| (k_here; (with_reducible show wpAny _ _ (call (Value.ref 157) _) _ _ _); k_dflt ((refine' arms ?hA ?k1 ?k2 ?k3 ?k4 ?k5 ?kK trivial ?kd ?ku ?_); (case hA => with_reducible assumption); (case k1 => k_asm); (case k2 => k_asm); (case k3 => k_asm); (case k4 => k_asm); (case k5 => k_asm); (case kK => first | exact rfl | assumption); (case kd => ktr_room); (case ku => ktr_units); k_whole); intro t9 h9 tk9 F9 N9; (try dsimp only)))
local macro_rules | `(tactic| walk_at "call ref") => `(tactic| (k_here; (with_reducible show wpAny _ _ (call (Value.ref 145) _) _ _ _); k_dflt ((refine' way ?k1 ?k2 ?k3 ?k4 ?k5 ?kK ?kp ?kd ?ku ?_); (case kp => with_reducible assumption); (case k1 => k_asm); (case k2 => k_asm); (case k3 => k_asm); (case k4 => k_asm); (case k5 => k_asm); (case kK => first | exact rfl | assumption); (case kd => ktr_room); (case ku => ktr_units); k_whole); intro t9 h9 tk9 F9 N9; (try dsimp only)))
local macro_rules | `(tactic| walk_at "call builtin:len") => `(tactic| (k_here; (with_reducible show wpAny _ _ (call (Value.builtin "len") [Value.ref _]) _ _ _); k_dflt ((refine' len_led ?N ?hm ?hk ?hz ?_); (case N => k_asm); (case hm => k_mem); (case hk => with_reducible assumption); (case hz => omega))))
local macro_rules | `(tactic| walk_at "binaryOp Mult ref int") => `(tactic| (k_here; (with_reducible show wpAny _ _ (binaryOp Operator.Mult (Value.ref _) (Value.int _ _)) _ _ _); k_dflt ((refine' KMa.mul ?F ?N ?l ?lo ?hi ?z ?e ?_); (case F => k_asm); (case N => k_asm); (case l => exact News.isList (by k_asm) (.head _)); (case lo => omega); (case hi => omega); (case z => (simp only [List.length_cons, List.length_nil]; omega)); (case e => exact rfl); k_whole); intro D' h' F' N' l1; (try k_lt l1)))
local macro_rules | `(tactic| walk_at "call ref") => `(tactic| (k_here; (with_reducible show wpAny _ _ (call (Value.ref 121) _) _ _ _); k_dflt ((refine' subV ?hv ?k1 ?k2 ?k3 ?k4 ?k5 ?kK trivial ?kd ?ku ?_); (case k1 => k_asm); (case k2 => k_asm); (case k3 => k_asm); (case k4 => k_asm); (case k5 => k_asm); (case hv => with_reducible assumption); (case kK => first | exact rfl | assumption); (case kd => ktr_room); (case ku => ktr_units); k_whole); intro t9 h9 tk9 F9 N9; (try dsimp only)))
local macro_rules | `(tactic| walk_at "call ref") => `(tactic| (k_here; (with_reducible show wpAny _ _ (call (Value.ref 78) _) _ _ _); k_dflt ((refine' reachV ?hv ?k1 ?k2 ?k3 ?k4 ?k5 ?kK trivial ?kd ?ku ?_); (case hv => with_reducible assumption); (case k1 => k_asm); (case k2 => k_asm); (case k3 => k_asm); (case k4 => k_asm); (case k5 => k_asm); (case kK => first | exact rfl | assumption); (case kd => ktr_room); (case ku => ktr_units); k_whole); intro t9 h9 tk9 F9 N9; (try dsimp only)))
local macro_rules | `(tactic| walk_at "newTuple") => `(tactic| (k_here; k_dflt ((refine' kup_newTuple ?F ?N ?_ ?z); (case F => k_asm); (case N => k_asm); (case z => kmk_size)); intro D' h' F' N' l1; (try k_lt l1); (try k_sweep)))
local macro_rules | `(tactic| walk_at "subscriptTail Name Slice ref ref") => `(tactic| (k_here; (with_reducible show wpAny _ _ (subscriptTail _ (PySem.Expr.Slice _ _ none _) (Value.ref _) (Value.ref _)) _ _ _); k_dflt (refine' kmk_slice_ints ?F ?N ?l ?p ?q ?i ?m ?c ?_ ?s ?t ?z; (case F => k_asm); (case N => k_asm); (case l => (refine' isL_of ?nN ?nm; (case nN => k_asm); (case nm => k_mem))); (case p => kmk_part); (case q => kmk_part); (case i => with_reducible assumption); (case m => kmk_nums); (case c => exact rfl); (case s => with_unfolding_all rfl); (case t => kmk_pure); (case z => (rw [List.size_toArray, PySem.sizeLine_eq]; omega))); intro D' ws' h' F' N' l1 hI' hC' hL'; (try k_lt l1)))
theorem Mine.main : PySem.Challenge.rw_wn0092_01.Holds := by
  exact Mine.hd (by
    k_go0
    (all_goals try k_fold)
    rename CellsAre _ _ _ => lY; have hY := CellsAre.four lY; obtain ⟨o1, o2, o3, o4, hE, d1, d2, d3, d4⟩ := hY
    iterate 30 walk1
    rename Fr _ _ _ _ => F1
    rename News _ _ _ _ => N1
    rename IsRange _ _ _ _ _ _ _ _ => R1
    rename Heap.IsList _ _ _ => hL0
    rename ¬ _ => h63
    rename PyData.layable0 _ = true => hLay
    rename IntsAre _ _ => hI0
    have N2 := N1
    rw [hE] at N2
    clear N1
    refine' st_rng (σ := C4) (fun c => (_, listOf #[.int c.a c.ta, .int c.b c.tb, .int c.c c.tc, .int c.d c.td] c.n) :: _) (fun _ => []) [] C4.ok ⟨7, 11, 2, 3, _, _, _, _, 0⟩ rfl R1 ?smLA ?rsLA F1 N2 ?hkLA ?hpLA ?turnLA ?doneLA
    case smLA => exact rng_small h63
    case rsLA => exact rng_size _
    case hkLA => kst_all
    case hpLA => exact hp0 _ _ _ _
    case doneLA =>
      intro c u h tk hP F N
      clear N2 F1 R1 hE
      iterate 16 walk1
      refine' words ?hlLA ?k1LA ?k2LA ?k3LA ?k4LA ?k5LA ?kKLA ?kdLA ?kuLA ?_
      case k1LA => k_asm
      case k2LA => k_asm
      case k3LA => k_asm
      case k4LA => k_asm
      case hlLA => k_mem
      case k5LA => k_asm
      case kKLA => first | exact rfl | assumption
      case kdLA => ktr_room
      case kuLA => ktr_units
      k_whole
      intro W WL nW hW9 tk9 FW NW hW1 hW2 hW3 hW4 hW5
      have NR := reorder1 NW
      have hap := apart1 (oW := listOf (refsOf WL).toArray nW) hW1 hW2
      have hWm : (W, listOf (refsOf WL).toArray nW) ∈ (W, listOf (refsOf WL).toArray nW) :: entsOf WL := .head _
      have hEm : ∀ x ∈ WL, x.ent ∈ (W, listOf (refsOf WL).toArray nW) :: entsOf WL := fun x hx => .tail _ (List.mem_map_of_mem hx)
      generalize (W, listOf (refsOf WL).toArray nW) :: entsOf WL = base at *
      clear NW hW1 hW2
      iterate 13 walk1
      rename News _ _ _ _ => N3
      rename Fr _ _ _ _ => F3
      k_dflt (refine LCg.CompSrc.ledger (by rfl) F3 N3 (.head _) (by rw [sizeLine_eq]; exact Nat.le_of_ble_eq_true rfl) ?_)
      intro g1
      refine rest_map (vs := [Value.int c.c c.tc, Value.int c.d c.td]) (fun a y => ∃ x t u, a = .int x t ∧ y = .int (nz x) u) (.inr ⟨_, .head _, rfl, _, rfl⟩) ?turnCLA ?finCLA
      case turnCLA =>
        intro v I oI C oC D m₂ ys h tk E' hk hC hx F N off ne
        obtain ⟨x, t, rfl⟩ : ∃ x t, v = .int x t := by
          rcases List.mem_cons.mp hk with rfl | hk
          · exact ⟨_, _, rfl⟩
          · exact ⟨_, _, List.mem_singleton.mp hk⟩
        clear hk
        k_steps
        all_goals first | k_asm | (rw [show nz x = x from if_neg (by assumption)]) | (rw [show nz x = 1 from if_pos (by assumption)])
      case finCLA =>
        intro ys hy D h' tk' F' N' o1'
        rcases hy with _ | ⟨⟨x, t, y1, e1, f1⟩, hy⟩; subst f1; cases e1
        rcases hy with _ | ⟨⟨x, t, y2, e2, f2⟩, hy⟩; subst f2; cases e2
        cases hy
        have om := off1_mem o1'
        have om1 := om _ (.head _)
        have om2 := om _ (.tail _ (.head _))
        have om3 := om _ (.tail _ (.tail _ (.head _)))
        have om4 := om _ (.tail _ (.tail _ (.tail _ (.head _))))
        have om5 := om _ (.tail _ (.tail _ (.tail _ (.tail _ (.head _)))))
        have om6 := om _ (.tail _ (.tail _ (.tail _ (.tail _ (.tail _ (.head _))))))
        have omb : ∀ p ∈ base, @Ne Nat p.1 D := fun p hp => om p (.tail _ (.tail _ (.tail _ (.tail _ (.tail _ (.tail _ hp))))))
        dsimp only at om1 om2 om3 om4 om5 om6
        have ha1 : ∀ p ∈ base, @Ne Nat p.1 _ := fun p hp => (hap p hp).1
        have ha2 : ∀ p ∈ base, @Ne Nat p.1 _ := fun p hp => (hap p hp).2.1
        have ha3 : ∀ p ∈ base, @Ne Nat p.1 _ := fun p hp => (hap p hp).2.2.1
        have ha4 : ∀ p ∈ base, @Ne Nat p.1 _ := fun p hp => (hap p hp).2.2.2
        clear om o1' hap
        walk1
        rename_i hq oW FX NX dW
        iterate 8 walk1
        rename_i K hA lK hB FK NK
        obtain ⟨m0, FL⟩ := fr_any [(Str.ofString "kept", .ref K), (Str.ofString "words", .ref W)] FK (by kst_all)
        have NL := reorder2 NK
        have hv0 := c4_bits hP.2.2.1 h63
        have hv1 := c4_bits hP.2.2.2 h63
        generalize nz c.c = v0 at *
        generalize nz c.d = v1 at *
        have hb4 := cons_ne (o := LCg.lst [Value.int v0 y1, Value.int v1 y2]) om2.symm ha1
        have hb3 := cons_ne (o := LCg.lst [Value.int v0 y1, Value.int v1 y2]) om3.symm ha2
        have hb2 := cons_ne (o := LCg.lst [Value.int v0 y1, Value.int v1 y2]) om4.symm ha3
        have hb1 := cons_ne (o := LCg.lst [Value.int v0 y1, Value.int v1 y2]) om5.symm ha4
        have hbK := cons_ne (o := LCg.lst [Value.int v0 y1, Value.int v1 y2]) (Nat.ne_of_lt lK.1) (fun p hp => Nat.ne_of_lt (all_lt lK.2.2.2.2.2.2.2 p hp))
        have hK := lK.2.2
        have hDm : (D, LCg.lst [Value.int v0 y1, Value.int v1 y2]) ∈ (D, LCg.lst [Value.int v0 y1, Value.int v1 y2]) :: base := .head _
        have hWm2 := List.Mem.tail (D, LCg.lst [Value.int v0 y1, Value.int v1 y2]) hWm
        have hEm2 : ∀ x ∈ WL, x.ent ∈ (D, LCg.lst [Value.int v0 y1, Value.int v1 y2]) :: base := fun x hx => .tail _ (hEm x hx)
        generalize hBase : (D, LCg.lst [Value.int v0 y1, Value.int v1 y2]) :: base = base2 at *
        have hwa := word_in c.a
        have hwb := word_in c.b
        generalize wordOf c.a = wa at *
        generalize wordOf c.b = wb at *
        (try clear NK)
        (try clear FK)
        (try clear om1)
        (try clear om2)
        (try clear om3)
        (try clear om4)
        (try clear om5)
        (try clear om6)
        (try clear omb)
        (try clear ha1)
        (try clear ha2)
        (try clear ha3)
        (try clear ha4)
        (try clear hWm)
        (try clear hEm)
        (try clear hBase)
        (try clear base)
        (try clear NR)
        (try clear NX)
        (try clear FX)
        (try clear F')
        (try clear N')
        (try clear N3)
        (try clear F3)
        (try clear F)
        (try clear N)
        (try clear lK)
        (try clear hP)
        w_top off
        refine For_any ?_
        iterate 1 walk1
        refine' st_ledG (σ := Nat × Obj × Obj × List WI) (fun c => (K, listOf (refsOf c.2.2.2).toArray c.1) :: (_, o1) :: (_, c.2.1) :: (_, c.2.2.1) :: (_, oW) :: base2) (fun _ => []) []
          (fun i c => c.2.2.2 = (WL.take i).filter (fun x => keepW (WL.map (·.ns)) x.ns) ∧ (∃ v, c.2.1.data = .cell v) ∧ ∃ v, c.2.2.1.data = .cell v) (0, o2, o3, []) rfl FL NL ?hlLB ?hkLB ?hpLB ?hgoLB ?turnLB ?doneLB
        case hlLB => exact fun c => .tail _ (.tail _ (.tail _ (.tail _ (.tail _ hWm2))))
        case hkLB => kst_all
        case hpLB => exact ⟨rfl, ⟨_, d2⟩, ⟨_, d3⟩⟩
        case hgoLB => exact .inl fun _ _ => rfl
        case doneLB =>
          intro c u h tk hP F N
          obtain ⟨n, oh, ow, KL⟩ := c
          obtain ⟨hP1, ⟨vh, hPh⟩, ⟨vw, hPw⟩⟩ := hP
          dsimp only at hP1 hPh hPw N F
          have hKs : KL.map (·.ns) = keptOf (wordsOf wa wb) := by
            rw [hP1, ← hW4]
            exact kept_map WL (by simp)
          have hKE : ∀ x ∈ KL, x.ent ∈ base2 := fun x hx => hEm2 x (List.mem_of_mem_take (List.mem_filter.mp (hP1 ▸ hx)).1)
          have hKI : ∀ x ∈ KL, IntsAre x.vs x.ns := fun x hx => hW5 x (List.mem_of_mem_take (List.mem_filter.mp (hP1 ▸ hx)).1)
          have hok := kok hwa hwb
          generalize keptOf (wordsOf wa wb) = Ks at *
          have hKL2 : KL.length ≤ 2 := by
            have := hok.le
            rw [← hKs, List.length_map] at this
            exact this
          have hKL0 : KL ≠ [] := by
            rintro rfl
            exact hok.ne hKs.symm
          clear hP1 hW4 hwa hwb hWm2
          obtain ⟨m1, FL1⟩ := fr_any [(Str.ofString "kept", .ref K)] F (by kst_all)
          have NL1 := reorder3 N
          obtain ⟨base3, NL3, hWt, hKm, hsub, hc4, hc3, hc2⟩ := pack3 NL1 hK hb4 hb3 hb2
          replace hDm := hsub _ hDm
          replace hKE : ∀ x ∈ KL, x.ent ∈ base3 := fun x hx => hsub _ (hKE x hx)
          clear NL1 hK hb4 hb3 hb2 hb1 hbK hsub hEm2 NL FL F N hW3 hW5 base2
          w_top off
          iterate 7 walk1
          rename News _ _ _ _ => N4
          refine' eq_nil (l := KL) N4 ?hkLC ?hmLC ?hgLC (.head _) ?huLC ?_
          case hkLC => exact .tail _ (.tail _ (.tail _ (.tail _ hKm)))
          case hmLC => exact fun z hz => .tail _ (.tail _ (.tail _ (.tail _ (hKE z hz))))
          case hgLC => exact hKI
          case huLC => ktr_units
          rw [decide_eq_false hKL0]
          iterate 7 walk1
          rename Fr _ _ _ _ => F4
          have N5 := drop_head N4
          clear N4
          k_dflt (refine LCg.CompSrc.ledger (by rfl) F4 N5 (.tail _ (.tail _ (.tail _ hKm))) (by rw [List.size_toArray, List.length_map, sizeLine_eq]; omega) ?_)
          intro g1
          refine rest_gen (fun i ys nw => nw = _ ∧ ∃ l : List (Str × Tok), ys = strValues l ∧ l.map (·.1) = (KL.take i).map fun x => zone (textF x.ns)) ⟨rfl, [], rfl, rfl⟩ ?turnZLC ?finZLC
          case turnZLC =>
            rintro j v ys nw I oI C oC D' m₂ h tk E' hj hv2 ⟨rfl, l, rfl, hl⟩ hC hx2 F N off ne
            obtain ⟨x, hx, rfl⟩ : ∃ x, KL[j]? = some x ∧ v = .ref x.a := refs_at (by simpa using hv2)
            have hxK := List.mem_of_getElem? hx
            have hxm := hKE x hxK
            have hxi := hKI x hxK
            have hx14 : x.ns ∈ words14 := hok.mem _ (hKs ▸ List.mem_map_of_mem hxK)
            have hx01 := in01 hx14
            obtain ⟨hx3, hx20⟩ := inlen hx14
            have hx10 : x.ns.length ≤ 10 := Nat.le_trans hx3 (by decide)
            iterate 12 walk1
            refine' LCg.CompEnd.intro (by assumption) (by assumption) _ ?subLC off (.inr ⟨_, .tail _ (.tail _ (.tail _ hKm)), rfl, _, rfl⟩) ⟨rfl, l ++ [(_, _)], strv_snoc _ _ _, ?_⟩
            case subLC => exact fun p hp => hp
            rw [map_take_snoc hx, List.map_append, hl]
            rfl
          case finZLC =>
            rintro ys nw ⟨rfl, lz, rfl, hlz⟩
            intro Z hZ tkZ FZ NZ oZ
            have zm := off1_mem oZ
            have z1 := zm _ (.head _)
            have z2 := zm _ (.tail _ (.head _))
            have z3 := zm _ (.tail _ (.tail _ (.head _)))
            have zb : ∀ p ∈ base3, @Ne Nat p.1 Z := fun p hp => zm p (.tail _ (.tail _ (.tail _ hp)))
            dsimp only at z1 z2 z3
            iterate 16 walk1
            rename_i E0 hA lE T0 hB lT R hC FA NA lR hD FR NR
            iterate 8 walk1
            rename_i S hE FS NS lS
            walk1
            rename_i hG oS FG NG dS
            obtain ⟨m2, FL2⟩ := fr_any [(Str.ofString "kept", .ref K), (Str.ofString "zones", .ref Z), (Str.ofString "running", .ref R)] FG (by kst_all)
            obtain ⟨junk, base4, NL4, hRm, hTm, hEm, hZm, hSc, hsub, hap⟩ := pack4 NG lS z2 z3 hc3 hc2 lR lT lE
            replace hWt := hsub _ hWt
            replace hKm := hsub _ hKm
            replace hDm := hsub _ hDm
            replace hKE : ∀ x ∈ KL, x.ent ∈ base4 := fun x hx => hsub _ (hKE x hx)
            have hSL := lS.2.2.2.2.1
            (try clear FG)
            (try clear NG)
            (try clear FS)
            (try clear NS)
            (try clear FR)
            (try clear NR)
            (try clear FA)
            (try clear NA)
            (try clear lS)
            (try clear lR)
            (try clear lT)
            (try clear lE)
            (try clear z1)
            (try clear z2)
            (try clear z3)
            (try clear zb)
            (try clear zm)
            (try clear oZ)
            (try clear FZ)
            (try clear NZ)
            (try clear hsub)
            (try clear hc4)
            (try clear hc3)
            (try clear hc2)
            iterate 3 walk1
            k_dflt (refine LCg.CompSrc.ledger (by rfl) FL2 NL4 (.tail _ (.tail _ (.tail _ (List.mem_append_right junk hKm)))) (by rw [List.size_toArray, List.length_map, sizeLine_eq]; omega) ?_)
            intro g2
            refine rest_gen (RowsJ _) (RowsJ.zero _) ?turnELC ?finELC
            case turnELC =>
              rintro j v ys nw I oI C oC D' m₂ h tk E' hj hv2 ⟨rows, hr1, rfl, rfl, hr2, hr3⟩ hC hx2 F N off ne
              iterate 8 walk1
              rename_i Li hLi FLi NLi lLi Dn hDn FDn NDn lDn
              subst hr1
              obtain ⟨e1, e2, e3⟩ := rows_end off (all_lt lDn) hr2 hr3 ⟨Dn, _, zero6, 0⟩ rfl (.cons 0 _ (.cons 0 _ (.cons 0 _ (.cons 0 _ (.cons 0 _ (.cons 0 _ .nil)))))) rfl
              exact LCg.CompEnd.intro FDn NDn _ e1 e2 (.inr ⟨_, List.mem_append_right _ (.tail _ (.tail _ (.tail _ (List.mem_append_right junk hKm)))), rfl, _, rfl⟩) e3
            case finELC =>
              rintro ys nw ⟨rows, hr1, rfl, rfl, hr2, hr3⟩
              intro Ea hEa tkE FE NE oE
              obtain ⟨m3, FL3⟩ := fr_any [(Str.ofString "kept", .ref K), (Str.ofString "zones", .ref Z), (Str.ofString "running", .ref R), (Str.ofString "ended", .ref Ea)] FE (by kst_all)
              obtain ⟨base5, NL5, hEam, hsub, hapt, hnd⟩ := pack5 NE oE hr2 hap hSL
              replace hWt := hsub _ hWt
              replace hKm := hsub _ hKm
              replace hDm := hsub _ hDm
              replace hZm := hsub _ hZm
              replace hSc := hsub _ hSc
              replace hKE : ∀ x ∈ KL, x.ent ∈ base5 := fun x hx => hsub _ (hKE x hx)
              have hrl : rows.length = Ks.length := by rw [hr1, ← hKs]; simp
              have hz : lz.map (·.1) = Ks.map fun w => zone (textF w) := by
                rw [hlz, ← hKs, List.map_map, List.take_of_length_le (by simp)]
                rfl
              have hrI := hr2.1
              (try clear FE)
              (try clear NE)
              (try clear oE)
              (try clear hr1)
              (try clear hr2)
              (try clear hsub)
              (try clear hap)
              (try clear hlz)
              (try clear NL4)
              (try clear FL2)
              (try clear N5)
              (try clear F4)
              w_top off
              rename Shared => s1
              iterate 11 walk1
              rename Fr _ _ _ _ => F1
              rename News _ _ _ _ => N1
              rename IsRange _ _ _ _ _ _ _ _ => R1
              generalize hRA : rows.map (·.a) = RA at hapt hnd
              refine' st_rng (σ := OS) (n := 5) (LedO S (s1.heap.objs.size + 1 + 1 + 1) (s1.heap.objs.size + 1 + 1) ow base5) (fun c => [(Str.ofString "running", .ref c.R)]) [Str.ofString "longer", Str.ofString "text", Str.ofString "worth", Str.ofString "label", Str.ofString "found"]
                (fun i c => OOk Ks v0 v1 RA (S :: (s1.heap.objs.size + 1 + 1 + 1) :: (s1.heap.objs.size + 1 + 1) :: RA) base5 i c) ⟨R, 0, [⟨T0, ⟨E0, [], [], 0⟩, 1, tkZ⟩], [.int 1 _], 0, oh, rows, junk⟩ rfl R1 (by decide) (by decide) F1 N1 ?hkLD ?hpLD ?turnLD ?doneLD
              case hkLD => kst_all
              case hpLD =>
                refine ⟨hRm, ?_, rfl, ?_, hRA, hrI, ?_, ⟨_, hPh⟩, hapt⟩
                · intro x hx
                  rw [List.mem_singleton.mp hx]
                  exact ⟨hTm, hEm, .nil, rfl⟩
                · rw [sumsA_zero]; exact .cons _ _ .nil
                · refine List.ext_getElem? fun k => ?_
                  simp only [List.getElem?_map]
                  by_cases hk : k < rows.length
                  · rw [List.getElem?_eq_getElem hk, List.getElem?_range (by omega)]
                    simp only [Option.map_some, Option.some.injEq]
                    rw [rowA_zero]
                    exact hr3 _ (List.getElem_mem hk)
                  · rw [List.getElem?_eq_none (by omega), List.getElem?_eq_none (by simp; omega)]
                    rfl
              case doneLD =>
                intro c u h tk hP F N
                obtain ⟨m6, F6⟩ := fr_any [(Str.ofString "kept", .ref K), (Str.ofString "ended", .ref Ea)] F (by kst_all)
                obtain ⟨base6, N6, hSm, hrE, hsub, hb6⟩ := pack10 N hP hnd
                replace hWt := hsub _ hWt
                replace hKm := hsub _ hKm
                replace hDm := hsub _ hDm
                replace hSc := hsub _ hSc
                replace hEam := hsub _ hEam
                replace hKE : ∀ x ∈ KL, x.ent ∈ base6 := fun x hx => hsub _ (hKE x hx)
                have hra2 := hP.ra
                have hri2 := hP.ri
                have hrn2 := hP.rn
                have hs2 := hP.hs
                (try clear FL3)
                (try clear NL5)
                (try clear hrI)
                (try clear hr3)
                (try clear hRm)
                (try clear hTm)
                (try clear hEm)
                (try clear N1)
                (try clear F1)
                clear hsub hP N F hapt hnd hZm hz
                w_top off
                iterate 17 walk1
                rename Fr _ _ _ _ => FM
                rename News _ _ _ _ => NM
                obtain ⟨Mx, dx, pd, hsh, tkM, m7, N7, hM1, hM2, F7⟩ := pack11 [(Str.ofString "kept", .ref K), (Str.ofString "ended", .ref Ea)] NM (by omega) (by omega) FM (by kst_all)
                (try clear FM)
                (try clear NM)
                (try clear F6)
                (try clear N6)
                refine For_any ?_
                iterate 1 walk1
                refine' st_ledG (σ := Obj) (vs := refsOf KL) (nn := n) (fun c => (_, c) :: (Mx, instObj 124 dx) :: (dx, dictOf [⟨hsh, .str (Str.ofString "passwd") tkM, .ref pd⟩] 1) :: base6) (fun _ => []) [Str.ofString "goal", Str.ofString "due", Str.ofString "which", Str.ofString "rung", Str.ofString "common", Str.ofString "way", Str.ofString "begins", Str.ofString "name", Str.ofString "other", Str.ofString "size", Str.ofString "above"]
                  (fun i c => ∃ v, c.data = .cell v) ow rfl F7 N7 ?hlLG ?hkLG ?hpLG ?hgoLG ?turnLG ?doneLG
                case hlLG => exact fun c => .tail _ (.tail _ (.tail _ hKm))
                case hkLG => kst_all
                case hpLG => exact ⟨_, hPw⟩
                case hgoLG => exact .inl fun _ _ => rfl
                case doneLG =>
                  intro c u h tk hP F N
                  k_steps
                case turnLG =>
                  intro i v c u h tk it io hv hP ho F N
                  obtain ⟨x, hx, rfl⟩ := refs_at hv
                  have hxK := List.mem_of_getElem? hx
                  have hxm := hKE x hxK
                  have hxo := wok hok hKs hKI hxK
                  obtain ⟨hxKs, hx14, hxi, hx01, hx3, hx10, hx20⟩ := hxo
                  obtain ⟨cv, hcv⟩ := hP
                  obtain ⟨H, S9, v9, hA⟩ := arms_ok hx14
                  have hway := way_ok hx14
                  have hit1 : @Ne Nat (s1.heap.objs.size + 1 + 1) it := ho (_, c) (.head _)
                  have hit2 : @Ne Nat Mx it := ho (Mx, instObj 124 dx) (.tail _ (.head _))
                  have hit3 : @Ne Nat dx it := ho (dx, _) (.tail _ (.tail _ (.head _)))
                  have hxl : x.vs.length = x.ns.length := IntsAre.length hxi
                  have hwp : (textF x.ns).length ≤ 1000 ∧ (Txt.replace (textF x.ns) (Str.ofString ".") (Str.ofString "/")).length ≤ 1000 ∧ (Txt.replace (Txt.replace (textF x.ns) (Str.ofString ".") (Str.ofString "/")) (Str.ofString "B") (Str.ofString "a")).length ≤ 1000 := ⟨hway.1, hway.2.1, hway.2.2.1⟩
                  obtain ⟨_, _, _, hwl, hwo, _⟩ := hway
                  iterate 2 walk1
                  rename_i hq1 ow2 FQ NQ dw2
                  iterate 20 walk1
                  iterate 36 walk1
                  have hKl : (refsOf KL).length = Ks.length := by rw [← hKs]; simp
                  have hK2 := hok.le
                  iterate 5 walk1
                  rename_i Dz hDz FDz NDz lDz
                  have hz0 : ∀ tok : Tok, IntsAre (List.replicate (6 - (x.ns.length : Int)).toNat [Value.int 0 tok]).flatten (dueP Ks v0 v1 x.ns ((List.range 0).flatMap (pairsOf Ks))) := by
                    intro tok
                    have e : (6 - (x.ns.length : Int)).toNat = 6 - x.ns.length := by omega
                    rw [e, show (List.range 0).flatMap (pairsOf Ks) = [] from rfl, dueP_nil]
                    exact rep_ints _ _
                  iterate 1 walk1
                  rename News _ _ _ _ => ND2
                  rename Fr _ _ _ _ => FD2
                  obtain ⟨m8, F8, he8⟩ := fr_anyE [(Str.ofString "goal", .str (wayF (textF x.ns)) _), (Str.ofString "due", .ref Dz), (Str.ofString "manager", .ref Mx), (Str.ofString "kept", .ref K), (Str.ofString "ended", .ref Ea)] FD2 (by kst_all)
                  have N8 := drop_second ND2
                  (try clear ND2)
                  (try clear FD2)
                  (try clear FDz)
                  (try clear NDz)
                  (try clear FQ)
                  (try clear NQ)
                  (try clear F)
                  (try clear N)
                  (try clear F7)
                  (try clear N7)
                  iterate 15 walk1
                  rename News _ _ _ _ => N9
                  rename Fr _ _ _ _ => F9
                  rename IsRange _ _ _ _ _ _ _ _ => R9
                  have hDit : @Ne Nat Dz it := Nat.ne_of_gt lDz.2.1
                  have hDw : @Ne Nat Dz (s1.heap.objs.size + 1 + 1) := Nat.ne_of_gt lDz.2.2.1
                  have hDM : @Ne Nat Dz Mx := Nat.ne_of_gt lDz.2.2.2.1
                  have hDx : @Ne Nat Dz dx := Nat.ne_of_gt lDz.2.2.2.2.1
                  have hDb : ∀ p ∈ base6, @Ne Nat p.1 Dz := fun p hp => Nat.ne_of_lt (all_lt lDz.2.2.2.2.2 p hp)
                  refine' st_rng (σ := List Value × Nat) (n := Ks.length) (fun c => (Dz, listOf c.1.toArray c.2) :: (it, io) :: (s1.heap.objs.size + 1 + 1, ow2) :: (Mx, instObj 124 dx) :: (dx, dictOf [⟨hsh, .str (Str.ofString "passwd") tkM, .ref pd⟩] 1) :: base6) (fun _ => [])
                    [Str.ofString "rung", Str.ofString "common", Str.ofString "way", Str.ofString "begins", Str.ofString "name", Str.ofString "other", Str.ofString "size", Str.ofString "above"]
                    (fun k c => IntsAre c.1 (dueP Ks v0 v1 x.ns ((List.range k).flatMap (pairsOf Ks)))) (_, 0) rfl R9 ?smLG ?rsLG F9 N9 ?hk2LG ?hp2LG ?turn2LG ?done2LG
                  case smLG => exact small_one (by decide) (by decide) (by omega) (by omega)
                  case rsLG => exact (rangeSize_nat _ _).trans (congrArg Nat.cast (by omega))
                  case hk2LG => kst_all
                  case hp2LG => exact hz0 _
                  case done2LG =>
                    intro c2 u2 h2 tk2 hP2 F N
                    rw [due_all hok hxKs] at hP2
                    w_top off
                    iterate 21 walk1
                    rename News _ _ _ _ => NR
                    rename Fr _ _ _ _ => FR
                    rename IsRange _ _ _ _ _ _ _ _ => RR
                    refine LCg.CompSrc.range (n := 6 - x.ns.length) (by rfl) FR NR RR (small_one (by decide) (by decide) (by omega) (by omega)) ((rangeSize_nat _ _).trans (congrArg Nat.cast (by omega))) (by rw [sizeLine_eq]; omega) ?_
                    intro g3
                    refine rest_gen (fun i ys nw => nw = _ ∧ IntsAre ys ((List.range i).map fun size => sumT v0 v1 (runT Ks size) * worthF v0 v1 x.ns)) ⟨rfl, .nil⟩ ?turnCLL ?finCLL
                    case turnCLL =>
                      rintro q v ys nw I oI C oC D' m₂ h tk E' hq ⟨t, rfl⟩ ⟨rfl, hys⟩ hC hx2 F N off ne
                      have hq5 : q ≤ 5 := by omega
                      obtain ⟨rt, hrv⟩ := ints_getZ hs2 (sumsA_at hq5)
                      have hmul := mul_run hv0 hv1 Ks q hq5 hx10
                      have hDm2 : (D, listOf [Value.int v0 y1, Value.int v1 y2].toArray 2) ∈ base6 := hDm
                      iterate 15 walk1
                      refine' worth ?hlLL ?hiLL ?h01LL ?hlenLL ?hwLL ?hb0LL ?hb1LL ?k1LL ?k2LL ?k3LL ?k4LL ?k5LL ?kKLL trivial ?kdLL ?kuLL ?_
                      case k1LL => k_asm
                      case k2LL => k_asm
                      case k3LL => k_asm
                      case k4LL => k_asm
                      case hlLL => k_mem
                      case hiLL => with_reducible assumption
                      case h01LL => with_reducible assumption
                      case hlenLL => with_reducible assumption
                      case hwLL => k_mem
                      case hb0LL => with_reducible assumption
                      case hb1LL => with_reducible assumption
                      case k5LL => k_asm
                      case kKLL => first | exact rfl | assumption
                      case kdLL => ktr_room
                      case kuLL => ktr_units
                      k_whole
                      intro t9 h9 tk9 F9 N9
                      dsimp only
                      iterate 1 walk1
                      refine' LCg.CompEnd.intro (by assumption) (by assumption) _ ?subLL off trivial ⟨rfl, ?_⟩
                      case subLL => exact fun p hp => hp
                      rw [List.range_succ, List.map_append]
                      exact IntsAre.snoc hys _ _
                    case finCLL =>
                      rintro ys nw ⟨rfl, hys⟩
                      intro D2 hD2 tkD2 FD3 ND3 oD3
                      refine' ne_ints ND3 (.tail _ (.head _)) ?bLL hP2 hys ?uLL ?_
                      case bLL => exact .head _
                      case uLL => ktr_units
                      rw [decide_eq_true rfl]
                      k_steps
                      rename News _ _ _ _ => NE
                      rename Fr _ _ _ _ => FE
                      refine' st_endG ow2 FE NE (fun p hp => .tail _ (.tail _ hp)) (off_head ho) ?hkLL ?hrLL ?hpLL
                      case hkLL => kst_all
                      case hrLL =>
                        intro z h2 h3
                        obtain ⟨⟨z1, z2, z3⟩, h8⟩ := contains11 h3
                        refine (if_neg z3).trans ?_
                        refine (if_neg (by rw [h8]; exact Bool.false_ne_true)).trans ?_
                        refine (he8 z).trans ?_
                        refine (if_neg z2).trans ?_
                        refine (if_neg z1).trans ?_
                        exact if_neg (by rw [h3]; exact Bool.false_ne_true)
                      case hpLL => exact ⟨_, dw2⟩
                  case turn2LG =>
                    intro k tw c u2 h2 tk2 it2 io2 hk hP2 ho2 F N
                    obtain ⟨xi, hxk⟩ : ∃ xi, KL[k]? = some xi := ⟨_, List.getElem?_eq_getElem (by rw [List.length_map] at hKl; omega)⟩
                    have hxiK := List.mem_of_getElem? hxk
                    have hxim := hKE xi hxiK
                    obtain ⟨hyKs, hy14, hyi, hy01, hy3, hy10, hy20⟩ := wok hok hKs hKI hxiK
                    have hyl : xi.vs.length = xi.ns.length := IntsAre.length hyi
                    have hEk : (refsOf KL)[((0 : Int) + (k : Int)).toNat]? = some (.ref xi.a) := by
                      rw [show ((0 : Int) + (k : Int)).toNat = k by omega, refsOf, List.getElem?_map, hxk]; rfl
                    have hiD : @Ne Nat Dz it2 := ho2 (Dz, listOf c.1.toArray c.2) (.head _)
                    iterate 17 walk1
                    rename Fr _ _ _ _ => FA
                    obtain ⟨m9, FB, he9⟩ := fr_anyE [(Str.ofString "rung", .str (textF xi.ns ++ Str.ofString ".local") _), (Str.ofString "which", .int (0 + (k : Int)) tw), (Str.ofString "goal", .str (wayF (textF x.ns)) _), (Str.ofString "due", .ref Dz), (Str.ofString "manager", .ref Mx), (Str.ofString "kept", .ref K), (Str.ofString "ended", .ref Ea)] FA (by kst_all)
                    (try clear FA)
                    iterate 25 walk1
                    rename News _ _ _ _ => N9
                    rename Fr _ _ _ _ => F9
                    rename IsRange _ _ _ _ _ _ _ _ => R9
                    have hy1 := word_pos hy14
                    refine' st_rngD (σ := List Value × Nat × Str × Tok) (n := xi.ns.length) (fun c => (Dz, listOf c.1.toArray c.2.1) :: (it2, io2) :: (it, io) :: (s1.heap.objs.size + 1 + 1, ow2) :: (Mx, instObj 124 dx) :: (dx, dictOf [⟨hsh, .str (Str.ofString "passwd") tkM, .ref pd⟩] 1) :: base6) (fun c => [(Str.ofString "rung", .str c.2.2.1 c.2.2.2)])
                      [Str.ofString "way", Str.ofString "begins", Str.ofString "name", Str.ofString "other", Str.ofString "size", Str.ofString "above"]
                      (fun j c => IntsAre c.1 (dueP Ks v0 v1 x.ns ((List.range k).flatMap (pairsOf Ks) ++ (pairsOf Ks k).take j)) ∧ c.2.2.1 = rungS (xi.ns.drop j)) (c.1, c.2, textF xi.ns ++ Str.ofString ".local", _) rfl R9 ?sm3LG ?rs3LG F9 (swap_head N9) ?hk3LG ?hp3LG ?turn3LG ?done3LG
                    case sm3LG => exact small_down (by omega) (by omega) (by omega) (by omega)
                    case rs3LG => rw [rangeSize_downNat]; omega
                    case hk3LG => kst_all
                    case hp3LG =>
                      refine ⟨?_, ?_⟩
                      · rw [List.take_zero, List.append_nil]; exact hP2
                      · rw [List.drop_zero]; exact (rung_ne hy1).symm
                    case done3LG =>
                      intro c3 u3 h3 tk3 hP3 F N
                      obtain ⟨dvs, dn, rg, tg⟩ := c3
                      obtain ⟨hdv, hrg⟩ := hP3
                      dsimp only at hdv hrg F N
                      rw [rung_end] at hrg
                      subst hrg
                      have hKk : Ks.getD k [] = xi.ns := kget hKs hxk
                      k_steps
                      rename News _ _ _ _ => NE
                      rename Fr _ _ _ _ => FE
                      refine' st_end (dvs, dn) FE (swap_head NE) (fun p hp => hp) (off_head ho2) ?hkLG ?hrLG ?hpLG
                      case hkLG => kst_all
                      case hrLG =>
                        intro z zx h2 h3
                        obtain ⟨z1, z2, z3, z4, z5, z6, z7, z8⟩ := contains8 h3
                        refine (if_neg z2).trans ?_
                        refine (if_neg z1).trans ?_
                        refine (if_neg (contains6n z3 z4 z5 z6 z7 z8)).trans ?_
                        refine (he9 z).trans ?_
                        refine (if_neg z1).trans ?_
                        refine (if_neg zx).trans ?_
                        exact if_neg (by rw [h3]; exact Bool.false_ne_true)
                      case hpLG =>
                        dsimp only
                        rw [← pairs_range]
                        rw [pairs_all hKk] at hdv
                        exact hdv
                    case turn3LG =>
                      intro j tj c3 u3 h3 tk3 it3 io3 hj hP3 ho3 F N
                      obtain ⟨dvs, dn, rg, tg⟩ := c3
                      obtain ⟨hdv, hrg⟩ := hP3
                      dsimp only at hdv hrg F N ho3
                      have hyj := drop_in hy14 hj
                      subst hrg
                      obtain ⟨r1, r2, r3, r4, r5, r6⟩ := rung_facts hyj
                      obtain ⟨s1', s2', s3', s4'⟩ := sub_facts hyj hx14
                      obtain ⟨p1, p2, p3, p4, p5, p6⟩ := way_ok hyj
                      have hwpy : (textF (xi.ns.drop j)).length ≤ 1000 ∧ (Txt.replace (textF (xi.ns.drop j)) (Str.ofString ".") (Str.ofString "/")).length ≤ 1000 ∧ (Txt.replace (Txt.replace (textF (xi.ns.drop j)) (Str.ofString ".") (Str.ofString "/")) (Str.ofString "B") (Str.ofString "a")).length ≤ 1000 := ⟨p1, p2, p3⟩
                      have hjD : @Ne Nat Dz it3 := ho3 (Dz, _) (.head _)
                      w_top off
                      iterate 16 walk1
                      rw [r2]
                      iterate 26 walk1
                      iterate 5 walk1
                      rename News _ _ _ _ => NA
                      have NB := drop_head (drop_head NA)
                      (try clear NA)
                      iterate 1 walk1
                      refine For_any ?_
                      iterate 19 walk1
                      rename_i T1 hT1 lT1 T2 hT2 lT2 Lx hLx FLx NLx lLx
                      obtain ⟨mA, FA, heA⟩ := fr_anyE [(Str.ofString "begins", .bool (preW (xi.ns.drop j) x.ns)), (Str.ofString "way", .str (wayF (textF (xi.ns.drop j))) _), (Str.ofString "common", .int ((xi.ns.length : Int) + (j : Int) * -1) tj), (Str.ofString "rung", .str (rungS (xi.ns.drop j)) tg), (Str.ofString "which", .int (0 + (k : Int)) tw),
                        (Str.ofString "goal", .str (wayF (textF x.ns)) _), (Str.ofString "due", .ref Dz), (Str.ofString "manager", .ref Mx), (Str.ofString "kept", .ref K), (Str.ofString "ended", .ref Ea)] FLx (by kst_all)
                      refine' st_ledG (σ := Unit) (vs := [Value.ref T1, Value.ref T2]) (nn := 0) (fun _ => _) (fun _ => []) [Str.ofString "name", Str.ofString "other"] (fun _ _ => True) () rfl FA NLx ?hlLH ?hkLH ?hpLH ?hgoLH ?turnLH ?doneLH
                      case hlLH => exact fun _ => .head _
                      case hkLH => kst_all
                      case hpLH => trivial
                      case hgoLH => exact calm_tuple
                      case doneLH =>
                        intro c4 u4 h4 tk4 _ F N
                        have N9 := drop_head (drop_head (drop_head N))
                        (try clear N)
                        have hs9 : (Str.ofString "/").length = 1 := by decide
                        cases hpb : preW (xi.ns.drop j) x.ns with
                        | false =>
                          rw [hpb] at F heA
                          rw [hpb, Bool.false_and] at s4'
                          have hKk : Ks.getD k [] = xi.ns := kget hKs hxk
                          k_steps
                          · exfalso
                            rename (_ != _) = true => hbad
                            rw [r5] at hbad
                            exact Bool.false_ne_true (by simpa using hbad)
                          · rename News _ _ _ _ => NE
                            rename Fr _ _ _ _ => FE
                            refine' st_end (dvs, dn, Txt.slice (aboveS (xi.ns.drop j)) (some 1) none, _) FE NE (fun p hp => .tail _ (.tail _ hp)) ho3 ?hkLH ?hrLH ?hpLH
                            case hkLH => kst_all
                            case hrLH =>
                              intro z zx h2 h3
                              have zr : z ≠ Str.ofString "rung" := h2 _ (.head _)
                              obtain ⟨z1, z2, z3, z4, z5, z6⟩ := contains6 h3
                              refine (if_neg zr).trans ?_
                              refine (if_neg z6).trans ?_
                              refine (if_neg (contains2n z3 z4)).trans ?_
                              refine (heA z).trans ?_
                              refine (if_neg z2).trans ?_
                              refine (if_neg z1).trans ?_
                              refine (if_neg zx).trans ?_
                              refine (if_neg zr).trans ?_
                              exact if_neg (by rw [h3]; exact Bool.false_ne_true)
                            case hpLH =>
                              refine ⟨?_, ?_⟩
                              · rw [pairs_take hKk hj, ← List.append_assoc, dueP_same (by dsimp only; rw [hKk, overl_pre (Nat.le_of_lt hj)]; exact hpb)]
                                exact hdv
                              · dsimp only
                                rw [r6]
                                exact rung_next rfl
                        | true =>
                          rw [hpb] at F heA
                          rw [hpb, Bool.true_and] at s4'
                          w_top off
                          have hKk : Ks.getD k [] = xi.ns := kget hKs hxk
                          have hyjl : (xi.ns.drop j).length = xi.ns.length - j := List.length_drop
                          iterate 34 walk1
                          iterate 14 walk1
                          have hltb : (decide ((xi.ns.drop j).length < x.ns.length) != decide ((xi.ns.length : Int) + (j : Int) * -1 < (x.ns.length : Int))) = false := by
                            have e : ((xi.ns.drop j).length < x.ns.length) ↔ ((xi.ns.length : Int) + (j : Int) * -1 < (x.ns.length : Int)) := by omega
                            rw [decide_eq_decide.mpr e]
                            exact bne_self_eq_false _
                          rw [hltb]
                          rename News _ _ _ _ => NJ
                          have NK := drop_head (drop_head NJ)
                          (try clear NJ)
                          iterate 30 walk1
                          rename News _ _ _ _ => NL
                          rename Fr _ _ _ _ => FL
                          rename IsRange _ _ _ _ _ _ _ _ => RL
                          have hpl := pre_len hpb
                          refine' st_rng (σ := List Value × Nat) (n := 6 - x.ns.length) (fun c => (Dz, listOf c.1.toArray c.2) :: (it3, io3) :: (it2, io2) :: (it, io) :: (s1.heap.objs.size + 1 + 1, ow2) :: (Mx, instObj 124 dx) :: (dx, dictOf [⟨hsh, .str (Str.ofString "passwd") tkM, .ref pd⟩] 1) :: base6) (fun _ => []) []
                            (fun i c => IntsAre c.1 (dueH Ks v0 v1 x.ns ((List.range k).flatMap (pairsOf Ks) ++ (pairsOf Ks k).take j) (k, xi.ns.length - j) i)) (dvs, dn) rfl RL ?smLI ?rsLI FL (swap_head NL) ?hkLI ?hpLI ?turnLI ?doneLI
                          case smLI => exact small_one (by decide) (by decide) (by omega) (by omega)
                          case rsLI => exact (rangeSize_nat _ _).trans (congrArg Nat.cast (by omega))
                          case hkLI => kst_all
                          case hpLI => rw [dueH_zero]; exact hdv
                          case doneLI =>
                            intro c5 u5 h5 tk5 hP5 F N
                            w_top off
                            k_steps
                            · exfalso
                              rename (_ != _) = true => hbad
                              rw [r5] at hbad
                              exact Bool.false_ne_true (by simp at hbad)
                            · rename News _ _ _ _ => NE
                              rename Fr _ _ _ _ => FE
                              refine' st_end (c5.1, c5.2, Txt.slice (aboveS (xi.ns.drop j)) (some 1) none, _) FE (swap_head NE) (fun p hp => hp) (off_head ho3) ?hkLK ?hrLK ?hpLK
                              case hkLK => kst_all
                              case hrLK =>
                                intro z zx h2 h3
                                have zr : z ≠ Str.ofString "rung" := h2 _ (.head _)
                                obtain ⟨z1, z2, z3, z4, z5, z6⟩ := contains6 h3
                                refine (if_neg zr).trans ?_
                                refine (if_neg z6).trans ?_
                                refine (if_neg z5).trans ?_
                                refine (if_neg (contains2n z3 z4)).trans ?_
                                refine (heA z).trans ?_
                                refine (if_neg z2).trans ?_
                                refine (if_neg z1).trans ?_
                                refine (if_neg zx).trans ?_
                                refine (if_neg zr).trans ?_
                                exact if_neg (by rw [h3]; exact Bool.false_ne_true)
                              case hpLK =>
                                refine ⟨?_, ?_⟩
                                · rw [pairs_take hKk hj, ← List.append_assoc, ← dueH_full]
                                  exact hP5
                                · dsimp only
                                  rw [r6]
                                  exact rung_next rfl
                          case turnLI =>
                            intro i ti c5 u5 h5 tk5 it5 io5 hi hP5 ho5 F N
                            obtain ⟨rk, hrk1, hrk2, hrk3⟩ := row_get (v0 := v0) (v1 := v1) hRA hra2 hrn2 hk
                            have hrkm := hrE rk hrk1
                            have hrki := hri2 rk hrk1
                            have hidx : i + (xi.ns.length - j) ≤ 5 := by omega
                            obtain ⟨rt, hrv⟩ := ints_get hrki (hrk3 ▸ rowA_at hidx)
                            have hrv2 : rk.vs[((0 : Int) + (i : Int) + ((xi.ns.length : Int) + (j : Int) * -1)).toNat]? = some (.int (endW Ks v0 v1 k (i + (xi.ns.length - j))) rt) := by
                              rw [show ((0 : Int) + (i : Int) + ((xi.ns.length : Int) + (j : Int) * -1)).toNat = i + (xi.ns.length - j) by omega]
                              exact hrv
                            have hdl := dueH_len Ks v0 v1 x.ns ((List.range k).flatMap (pairsOf Ks) ++ (pairsOf Ks k).take j) (k, xi.ns.length - j) i
                            have hd10 : ∀ m : Nat, (x.ns.drop m).length ≤ 10 := fun m => by rw [List.length_drop]; omega
                            have hmul := fun m : Nat => mul_end hv0 hv1 Ks k (i + (xi.ns.length - j)) hidx (hd10 m)
                            have hD5 : @Ne Nat Dz it5 := ho5 (Dz, listOf c5.1.toArray c5.2) (.head _)
                            have hDm2 : (D, listOf [Value.int v0 y1, Value.int v1 y2].toArray 2) ∈ base6 := hDm
                            iterate 12 walk1
                            iterate 15 walk1
                            have hc01 : ∀ n ∈ x.ns.drop ((xi.ns.length : Int) + (j : Int) * -1).toNat, n = 0 ∨ n = 1 := fun n hn => hx01 n (List.mem_of_mem_drop hn)
                            have hc10 : (x.ns.drop ((xi.ns.length : Int) + (j : Int) * -1).toNat).length ≤ 10 := hd10 _
                            have hmul2 := hmul ((xi.ns.length : Int) + (j : Int) * -1).toNat
                            have hcm0 : (0 : Int) ≤ (xi.ns.length : Int) + (j : Int) * -1 := by omega
                            have hxz : x.vs.toArray.size ≤ sizeLine := by rw [List.size_toArray, sizeLine_eq]; omega
                            refine' kmk_slice_ints (ns := x.ns) ?zFLI ?zNLI ?zlLI ?zpLI ?zqLI ?ziLI ?zmLI ?zcLI ?_ ?zsLI ?ztLI ?zzLI
                            case zFLI => k_asm
                            case zNLI => k_asm
                            case zlLI => refine' isL_of ?nNLI ?nmLI; (case nNLI => k_asm); (case nmLI => k_mem)
                            case zpLI => exact IsPart.int _ _
                            case zqLI => exact IsPart.none
                            case ziLI => exact hxi
                            case zmLI => exact kmk_from hxi hcm0
                            case zcLI => exact rfl
                            case zsLI => with_unfolding_all rfl
                            case ztLI => intro _; with_unfolding_all rfl
                            case zzLI => exact hxz
                            intro D' ws' h' F' N' l1 hI' hC' hL'
                            (try k_lt l1)
                            iterate 4 walk1
                            refine' worth ?hlLI ?hiLI ?h01LI ?hlenLI ?hwLI ?hb0LI ?hb1LI ?k1LI ?k2LI ?k3LI ?k4LI ?k5LI ?kKLI trivial ?kdLI ?kuLI ?_
                            case k1LI => k_asm
                            case k2LI => k_asm
                            case k3LI => k_asm
                            case k4LI => k_asm
                            case hlLI => k_mem
                            case hiLI => with_reducible assumption
                            case h01LI => with_reducible assumption
                            case hlenLI => with_reducible assumption
                            case hwLI => k_mem
                            case hb0LI => with_reducible assumption
                            case hb1LI => with_reducible assumption
                            case k5LI => k_asm
                            case kKLI => first | exact rfl | assumption
                            case kdLI => ktr_room
                            case kuLI => ktr_units
                            k_whole
                            intro t9 h9 tk9 F9 N9
                            dsimp only
                            w_top off
                            iterate 2 walk1
                            rename News _ _ _ _ => NS
                            rename Fr _ _ _ _ => FS
                            refine' ksa_set (ns := dueH Ks v0 v1 x.ns ((List.range k).flatMap (pairsOf Ks) ++ (pairsOf Ks k).take j) (k, xi.ns.length - j) i) FS NS ?ULJ hP5 ?aLJ ?bLJ ?cLJ ?_
                            case ULJ => k_upd
                            case aLJ => omega
                            case bLJ => omega
                            case cLJ => omega
                            intro hE FE NE hiE _ _
                            k_steps
                            obtain ⟨vs9, hi9, N10⟩ := pack13 NE hiE
                            refine' st_end (vs9, c5.2) FE N10 (fun p hp => hp) (off_head ho5) ?hkLJ ?hrLJ ?hpLJ
                            case hkLJ => kst_all
                            case hrLJ =>
                              intro z zx h2 h3
                              exact if_neg zx
                            case hpLJ =>
                              dsimp only
                              rw [dueH_step hi, term_val hKk hj hpb]
                              rw [show ((0 : Int) + (i : Int)).toNat = i by omega, show ((xi.ns.length : Int) + (j : Int) * -1).toNat = xi.ns.length - j by omega] at hi9
                              exact hi9
                      case turnLH =>
                        intro q v c4 u4 h4 tk4 it4 io4 hv _ ho4 F N
                        obtain ⟨Tq, n1, n2, a1, a2, rfl, hTq, hsq⟩ : ∃ (Tq : Addr) (n1 n2 : Str) (a1 a2 : Tok), v = .ref Tq ∧ h4.get? Tq = some (tupO [.str n1 a1, .str n2 a2]) ∧ SubIs n1 (wayF (textF (xi.ns.drop j))) n2 (wayF (textF x.ns)) false := by
                          rcases q with _ | _ | q
                          · cases hv; exact ⟨T1, Str.ofString "hh", Str.ofString "h", _, _, rfl, (N _ (.tail _ (.tail _ (.tail _ (.head _))))).1, s2'⟩
                          · cases hv; exact ⟨T2, Str.ofString "h", Str.ofString "hh", _, _, rfl, (N _ (.tail _ (.tail _ (.head _)))).1, s3'⟩
                          · cases hv
                        refine' unpackN_ ?FLH ?NLH ?TLH ?k1LH ?k2LH ?k3LH ?_
                        case FLH => k_asm
                        case NLH => exact N
                        case TLH => exact ⟨_, hTq, rfl, _, rfl⟩
                        case k1LH => exact rfl
                        case k2LH => exact rfl
                        case k3LH => exact rfl
                        intro hT FT0 NT0
                        iterate 7 walk1
                        k_steps
                        rename News _ _ _ _ => NZ
                        rename Fr _ _ _ _ => FZ
                        refine' st_endG () FZ NZ (fun p hp => .tail _ (.tail _ hp)) ho4 ?hkLH ?hrLH trivial
                        case hkLH => kst_all
                        case hrLH =>
                          intro z _ h3
                          obtain ⟨z1, z2⟩ := contains2 h3
                          refine (if_neg z2).trans ?_
                          refine (if_neg z1).trans ?_
                          exact if_neg (by rw [h3]; exact Bool.false_ne_true)
              case turnLD =>
                intro i t c u h tk it0 io0 hi5 hP ho F N
                iterate 8 walk1
                rename_i Lg hL1 FL1 NL1 lL hL2 FL2 NL2
                obtain ⟨N3, hD0, hnd1⟩ := pack6 NL2 lL ho hP hnd
                obtain ⟨m4, F3, he4⟩ := fr_anyE [(Str.ofString "longer", .ref Lg), (Str.ofString "size", .int (1 + (i : Int)) t), (Str.ofString "kept", .ref K), (Str.ofString "zones", .ref Z), (Str.ofString "running", .ref c.R), (Str.ofString "ended", .ref Ea)] FL2 (by kst_all)
                (try clear FL1)
                (try clear NL1)
                (try clear FL2)
                (try clear NL2)
                (try clear lL)
                refine For_any ?_
                iterate 1 walk1
                refine' st_ledG (σ := DS) (vs := tupsOf c.T) (nn := c.nR) (LedI Lg (s1.heap.objs.size + 1 + 1 + 1) [(it0, io0), (S, listOf c.svs.toArray c.sn), (s1.heap.objs.size + 1 + 1, ow), (c.R, listOf (tupsOf c.T).toArray c.nR)] base5) (fun _ => []) [Str.ofString "text", Str.ofString "worth", Str.ofString "label", Str.ofString "found"]
                  (fun j d => DOk Ks v0 v1 RA (Lg :: (s1.heap.objs.size + 1 + 1 + 1) :: it0 :: S :: (s1.heap.objs.size + 1 + 1) :: RA) c.junk base5 i (((runT Ks i).take j).flatMap ext) d) ⟨[], 0, c.oh, c.rows, c.junk⟩ rfl F3 N3 ?hl2LD ?hk2LD ?hp2LD ?hgo2LD ?turn2LD ?done2LD
                case hl2LD => exact fun d => .tail _ (.tail _ (.tail _ (.tail _ (.tail _ (.head _)))))
                case hk2LD => kst_all
                case hp2LD => exact hD0
                case hgo2LD => exact calm_tuple
                case done2LD =>
                  intro d u2 h2 tk2 hD F N
                  have hDf : DOk Ks v0 v1 RA (Lg :: (s1.heap.objs.size + 1 + 1 + 1) :: it0 :: S :: (s1.heap.objs.size + 1 + 1) :: RA) c.junk base5 i ((runT Ks i).flatMap ext) d := by
                    have e : (runT Ks i).take (tupsOf c.T).length = runT Ks i := by
                      refine List.take_of_length_le ?_
                      rw [← hP.hTn, List.length_map, List.length_map]
                      exact Nat.le_refl _
                    rw [e] at hD
                    exact hD
                  have hbs : ∀ p ∈ base5, p ∈ entsOf d.rows ++ (d.junk ++ base5) := fun p hp => List.mem_append_right _ (List.mem_append_right _ hp)
                  have hSct := hbs _ hSc
                  obtain ⟨hap1, hap2⟩ := apart_I hnd1
                  have htS : ∀ p ∈ entsOf d.rows ++ (d.junk ++ base5), @Ne Nat p.1 S := tail_ne hDf (.tail _ (.tail _ (.tail _ (.head _)))) (apart_O hnd).1
                  have hRS : @Ne Nat c.R S := hP.ap (c.R, _) (List.mem_append_left _ hP.hR) _ (.head _)
                  have hwS : @Ne Nat (s1.heap.objs.size + 1 + 1) S := Ne.symm (apart_O hnd).2
                  have hit0 : @Ne Nat S it0 := ho (S, _) (.head _)
                  have hsl : c.svs.length ≤ 10 := by
                    rw [IntsAre.length hP.hs]
                    simp [sumsA]; omega
                  have hUl := dok_len (b := 0) (t := []) (j := (runT Ks i).length) hi5 (by rw [List.take_of_length_le (Nat.le_refl _)]; simpa using hDf)
                  dsimp only [LedI, DS.tail, List.cons_append, List.nil_append] at N
                  iterate 15 walk1
                  rename News _ _ _ _ => N9
                  rename Fr _ _ _ _ => F9
                  k_dflt (refine LCp.ListComp_P (F₀ := F9) (by rfl) (by decide) (by rfl) (by decide) (by rfl) (by rfl) (by decide) ?_)
                  iterate 1 walk1
                  refine LCp.SrcLP.ledger (by rfl) F9 N9 (.head _) (by rw [List.size_toArray, List.length_map, sizeLine_eq]; omega) ?_
                  intro g1
                  refine rest_genP (fun i ys => IntsAre ys ((d.U.take i).map (·.wt))) .nil ?turnSLD ?finSLD
                  case turnSLD =>
                    intro q v ys hq hv hys
                    obtain ⟨y, hy, rfl⟩ := tups_at (by simpa using hv)
                    have hyo := hDf.hU y (List.mem_of_getElem? hy)
                    refine ⟨y.ta, _, .ref y.tx.a, .int y.wt y.u, _, rfl, .tail _ (.tail _ (.tail _ (.tail _ (.tail _ (.tail _ (List.mem_append_right _ (List.mem_append_left _ hyo.tup))))))), rfl, rfl, ?_⟩
                    intro I oI C oC D' m₂ h tk E' hC hx1 hx2 F N off ne
                    iterate 1 walk1
                    refine' LCg.CompEnd.intro (by assumption) (by assumption) _ ?subLD off (.inr ⟨_, .head _, rfl, _, rfl⟩) ⟨rfl, ?_⟩
                    case subLD => exact fun p hp => hp
                    rw [map_take_snoc hy]
                    exact IntsAre.snoc hys _ _
                  case finSLD =>
                    intro ys hys Da hDa tkD FDa NDa oDa
                    have hys2 : IntsAre ys (d.U.map (·.wt)) := by
                      rw [List.take_of_length_le (by simp)] at hys
                      exact hys
                    have om := off1_mem oDa
                    have o1' := om _ (.head _)
                    have o2' := om _ (.tail _ (.tail _ (.head _)))
                    have o3' := om _ (.tail _ (.tail _ (.tail _ (.head _))))
                    dsimp only at o1' o2' o3'
                    clear om oDa
                    iterate 1 walk1
                    refine' sumK rfl FDa NDa (isL_of NDa (.head _)) hys2 ?_
                    intro hS9 tkS tS FS9 NS9
                    iterate 2 walk1
                    k_steps
                    rename News _ _ _ _ => NE
                    rename Fr _ _ _ _ => FE
                    refine' st_end ⟨Lg, d.nl, d.U, c.svs ++ [.int (d.U.map (·.wt)).sum tS], c.sn + 1, d.oh, d.rows, (Lg, listOf (tupsOf d.U).toArray d.nl) :: d.junk⟩ FE (pack9 NE) (fun p hp => hp) (ledO_ne ho (hDf.ra.trans hP.ra.symm) hDf hap1.2.1) ?hkLD ?hrLD ?hpLD
                    case hkLD => kst_all
                    case hrLD =>
                      intro z zx h2 h3
                      have zr : z ≠ Str.ofString "running" := h2 _ (.head _)
                      obtain ⟨z1, z2, z3, z4, z5⟩ := contains5 h3
                      refine (if_neg zr).trans ?_
                      refine (if_neg (contains4n z2 z3 z4 z5)).trans ?_
                      refine (he4 z).trans ?_
                      refine (if_neg z1).trans ?_
                      refine (if_neg zx).trans ?_
                      refine (if_neg zr).trans ?_
                      exact if_neg (by rw [h3]; exact Bool.false_ne_true)
                    case hpLD => exact ook_next hDf hP.hs hnd1
                case turn2LD =>
                  intro j v d u2 h2 tk2 it1 io1 hv hD ho1 F N
                  obtain ⟨x, hx, rfl⟩ := tups_at hv
                  have hxo := hP.hT x (List.mem_of_getElem? hx)
                  have hxt : x.tup ∈ d.tail base5 := List.mem_append_right _ (List.mem_append_left _ (hD.sub _ hxo.tup))
                  have hxe : x.tx.ent ∈ d.tail base5 := List.mem_append_right _ (List.mem_append_left _ (hD.sub _ hxo.ent))
                  dsimp only [LedI, DS.tail, List.cons_append, List.nil_append] at N hxt hxe
                  refine' unpackN_ ?FLD ?NLD ?TLD ?k1LD ?k2LD ?k3LD ?_
                  case FLD => k_asm
                  case NLD => k_asm
                  case TLD => exact News.isTup N (.tail _ (.tail _ (.tail _ (.tail _ (.tail _ (.tail _ (.tail _ hxt)))))))
                  case k1LD => exact rfl
                  case k2LD => exact rfl
                  case k3LD => exact rfl
                  intro hT FT0 NT0
                  iterate 7 walk1
                  rename Fr _ _ _ _ => FT
                  rename News _ _ _ _ => NT
                  obtain ⟨N4, hD4⟩ := pack7 (d := d) NT ho1 hD
                  obtain ⟨m5, F5, he5⟩ := fr_anyE [(Str.ofString "text", .ref x.tx.a), (Str.ofString "worth", .int x.wt x.u), (Str.ofString "longer", .ref Lg), (Str.ofString "size", .int (1 + (i : Int)) t), (Str.ofString "kept", .ref K), (Str.ofString "zones", .ref Z), (Str.ofString "running", .ref c.R), (Str.ofString "ended", .ref Ea)] FT (by kst_all)
                  (try clear FT)
                  (try clear NT)
                  (try clear F)
                  (try clear N)
                  have hd1 := ho1 (Lg, listOf (tupsOf d.U).toArray d.nl) (.head _)
                  clear hv
                  iterate 9 walk1
                  rename IsRange _ _ _ _ _ _ _ _ => R5
                  rename Fr _ _ _ _ => F6
                  rename News _ _ _ _ => N6
                  refine' st_rng (σ := DS) (n := 2) (LedI Lg (s1.heap.objs.size + 1 + 1 + 1) ((it1, io1) :: [(it0, io0), (S, listOf c.svs.toArray c.sn), (s1.heap.objs.size + 1 + 1, ow), (c.R, listOf (tupsOf c.T).toArray c.nR)]) base5) (fun _ => []) [Str.ofString "found"]
                    (fun b d => DOk Ks v0 v1 RA (it1 :: Lg :: (s1.heap.objs.size + 1 + 1 + 1) :: it0 :: S :: (s1.heap.objs.size + 1 + 1) :: RA) c.junk base5 i (((runT Ks i).take j).flatMap ext ++ (ext x.tx.ns).take b) d) d rfl R5 (by decide) (by decide) F6 N6 ?hk3LD ?hp3LD ?turn3LD ?done3LD
                  case hk3LD => kst_all
                  case hp3LD => exact hD4
                  case done3LD =>
                    intro d u3 h3 tk3 hD3 F N
                    k_steps
                    refine' st_endG d F N led_swap (ledI_ne ho1 (hD3.ra.trans hD.ra.symm) fun p hp => .inr (hD3.ap p (List.mem_append_left _ hp) _ (.head _))) ?hkLD ?hrLD ?hpLD
                    case hkLD => kst_all
                    case hrLD =>
                      intro z _ h3
                      obtain ⟨z1, z2, z3, z4⟩ := contains4 h3
                      refine (if_neg z3).trans ?_
                      refine (if_neg (contains1 z4)).trans ?_
                      refine (he5 z).trans ?_
                      refine (if_neg z2).trans ?_
                      refine (if_neg z1).trans ?_
                      exact if_neg (by rw [h3]; exact Bool.false_ne_true)
                    case hpLD => exact hD3.weak (take_ext hP.hTn hx)
                  case turn3LD =>
                    intro b tb d u3 h3 tk3 it2 io2 hb hD3 ho2 F N
                    obtain ⟨ℓ, hl⟩ : ∃ ℓ : Int, 0 + (b : Int) = ℓ := ⟨_, rfl⟩
                    have hl01 : ℓ = 0 ∨ ℓ = 1 := hl ▸ two_bits hb
                    rw [hl] at F
                    obtain ⟨wl, yl, hwi, hwl⟩ := worth_at (v0 := v0) (v1 := v1) (y1 := y1) (y2 := y2) hl01
                    have hxr : x.tx.ns ∈ runT Ks i := hP.hTn ▸ List.mem_map_of_mem (List.mem_of_getElem? hx)
                    obtain ⟨hu62, hsuf⟩ := grown hok hi5 hxr hl01
                    have hu01 := tin01 hu62
                    obtain ⟨hu5, hu20⟩ := tinlen hu62
                    have hu10 : (x.tx.ns ++ [ℓ]).length ≤ 10 := Nat.le_trans hu5 (by decide)
                    have hli : IntsAre [Value.int ℓ tb] [ℓ] := .cons _ _ .nil
                    have hxi := hxo.hin
                    have hbs : ∀ p ∈ base5, p ∈ entsOf d.rows ++ (d.junk ++ base5) := fun p hp => List.mem_append_right _ (List.mem_append_right _ hp)
                    have hxe2 : (x.tx.a, listOf x.tx.vs.toArray x.tx.n) ∈ entsOf d.rows ++ (d.junk ++ base5) := List.mem_append_right _ (List.mem_append_left _ (hD3.sub _ hxo.ent))
                    have hZt := hbs _ hZm
                    have hDt := hbs _ hDm
                    have hWtt := hbs _ hWt
                    have hEat := hbs _ hEam
                    obtain ⟨hap1, hap2⟩ := apart_I hnd1
                    have htL : ∀ p ∈ entsOf d.rows ++ (d.junk ++ base5), @Ne Nat p.1 Lg := tail_ne hD3 (.tail _ (.head _)) hap1.2.2.2.2
                    have hth : ∀ p ∈ entsOf d.rows ++ (d.junk ++ base5), @Ne Nat p.1 (s1.heap.objs.size + 1 + 1 + 1) := tail_ne hD3 (.tail _ (.tail _ (.head _))) hap2.2.2.2
                    have hRL : @Ne Nat c.R Lg := hD0.ap (c.R, _) (List.mem_append_left _ hP.hR) _ (.head _)
                    have hRh : @Ne Nat c.R (s1.heap.objs.size + 1 + 1 + 1) := hD0.ap (c.R, _) (List.mem_append_left _ hP.hR) _ (.tail _ (.head _))
                    have h1L : @Ne Nat Lg it1 := ho1 (Lg, listOf (tupsOf _).toArray _) (.head _)
                    have h1h : @Ne Nat (s1.heap.objs.size + 1 + 1 + 1) it1 := ho1 (s1.heap.objs.size + 1 + 1 + 1, _) (.tail _ (.head _))
                    have h2L : @Ne Nat Lg it2 := ho2 (Lg, listOf (tupsOf d.U).toArray d.nl) (.head _)
                    have h2h : @Ne Nat (s1.heap.objs.size + 1 + 1 + 1) it2 := ho2 (s1.heap.objs.size + 1 + 1 + 1, d.oh) (.tail _ (.head _))
                    obtain ⟨voh, hoh⟩ := hD3.oh
                    have hxw : Builtin.Int.intBits x.wt ≤ BB * 10 + 1 := by
                      rw [hxo.wt]
                      refine Nat.le_trans (worth_bits hv0 hv1 _) ?_
                      have h5 : x.tx.ns.length ≤ 10 := by rw [List.length_append] at hu10; omega
                      have := Nat.mul_le_mul_left BB h5
                      omega
                    have hwlb : Builtin.Int.intBits wl ≤ BB := by rw [hwl]; split <;> assumption
                    have hmul : IntMulOk x.wt wl := mulOk_of_bits hxw hwlb (by decide)
                    obtain ⟨H, hH⟩ : ∃ H, hostF (textF (x.tx.ns ++ [ℓ])) = H := ⟨_, rfl⟩
                    have hH' : Txt.upper (Str.ofString "x." ++ textF (x.tx.ns ++ [ℓ]) ++ Str.ofString ".local") = H := hH
                    dsimp only [LedI, DS.tail, List.cons_append, List.nil_append] at N
                    w_top off
                    have hlx : (Str.ofString "x." ++ textF (x.tx.ns ++ [ℓ]) ++ Str.ofString ".local").length ≤ 200 := host_len hu20
                    have hx9 : x.tx.ns.length ≤ 9 := by rw [List.length_append] at hu10; simpa using hu10
                    iterate 17 walk1
                    iterate 11 walk1
                    rename_i hq oh2 FX NX dh2
                    have N5 := drop_head (drop_head NX)
                    (try clear NX)
                    iterate 3 walk1
                    rename Fr _ _ _ _ => F5
                    k_dflt (refine LCg.CompSrc.ledger (by rfl) F5 N5 (.tail _ (.tail _ (.tail _ (.tail _ (.tail _ (.tail _ (.tail _ (.tail _ hZt)))))))) ?hszLE ?_)
                    case hszLE =>
                      have h1 := congrArg List.length hz
                      have h2 := hok.le
                      simp only [List.length_map] at h1
                      simp only [strValues, List.size_toArray, List.length_map]
                      rw [sizeLine_eq]; omega
                    intro g1
                    refine rest_gen (fun i ys nw => nw = _ ∧ ∃ l : List (Str × Tok), ys = strValues l ∧ l.map (·.1) = (Ks.take i).map fun w => reprB (infx w (x.tx.ns ++ [ℓ]))) ⟨rfl, [], rfl, rfl⟩ ?turnFLE ?finFLE
                    case turnFLE =>
                      rintro q v ys nw I oI C oC D' m₂ h tk E' hj hv2 ⟨rfl, l, rfl, hl'⟩ hC hx2 F N off ne
                      obtain ⟨w1, tz, hw1, rfl⟩ := strs_at hz (by simpa using hv2)
                      have hwK := List.mem_of_getElem? hw1
                      have hw14 := hok.mem _ hwK
                      have hdm := dm_up hu62 hw14
                      rw [hH] at hdm
                      iterate 17 walk1
                      refine' LCg.CompEnd.intro (by assumption) (by assumption) _ ?subLE off (.inr ⟨_, .tail _ (.tail _ (.tail _ (.tail _ (.tail _ (.tail _ (.tail _ (.tail _ hZt))))))), rfl, _, rfl⟩) ⟨rfl, l ++ [(reprB (infx w1 (x.tx.ns ++ [ℓ])), _)], strv_snoc _ _ _, ?_⟩
                      case subLE => exact fun p hp => hp
                      rw [map_take_snoc hw1, List.map_append, hl']
                      rfl
                    case finFLE =>
                      rintro ys nw ⟨rfl, lf, rfl, hlf⟩
                      intro Fa hFa tkF FF NF oF
                      have hlf2 : lf.map (·.1) = Ks.map fun w => reprB (infx w (x.tx.ns ++ [ℓ])) := by
                        rw [hlf, List.take_of_length_le]
                        have h1 := congrArg List.length hz
                        simp only [List.length_map] at h1
                        simp [strValues, h1]
                      have fm := off1_mem oF
                      have f1 := fm _ (.head _)
                      have f2 := fm _ (.tail _ (.head _))
                      have f3 := fm _ (.tail _ (.tail _ (.head _)))
                      have f4 := fm _ (.tail _ (.tail _ (.tail _ (.head _))))
                      dsimp only at f1 f2 f3 f4
                      clear fm oF
                      iterate 10 walk1
                      rename News _ _ _ _ => N7
                      refine' count_found (n := lf.length) N7 ?haLE hlf2 ?_
                      case haLE => exact (by simpa [strValues] using List.Mem.head _)
                      iterate 6 walk1
                      rename News _ _ _ _ => N8
                      refine' len_led (vs := strValues lz) (k := Ks.length) N8 (.tail _ (.tail _ (.tail _ (.tail _ (.tail _ (.tail _ (.tail _ (.tail _ (.tail _ hZt))))))))) ?hlzLE ?hkzLE ?_
                      case hlzLE =>
                        have h1 := congrArg List.length hz
                        simp only [List.length_map] at h1
                        simp [strValues, h1]
                      case hkzLE =>
                        have h2 := hok.le
                        omega
                      iterate 1 walk1
                      rw [count_freeB]
                      have hDt2 : (D, listOf [Value.int v0 y1, Value.int v1 y2].toArray 2) ∈ entsOf d.rows ++ (d.junk ++ base5) := hDt
                      clear hDt
                      cases hfree : freeOf Ks (x.tx.ns ++ [ℓ]) with
                      | true =>
                        iterate 6 walk1
                        have hUl := dok_len hi5 hD3
                        iterate 24 walk1
                        k_steps
                        rename_i X2 us2 hX2 hus2 lX2 Tn hTn lTn hN FN NN
                        have hwu : x.wt * wl = worthF v0 v1 (x.tx.ns ++ [ℓ]) := by rw [worth_snoc, ← hwl, hxo.wt]
                        obtain ⟨d', N', ha', hD'⟩ := end_free hD3 hfree NN hus2 hwu lX2 lTn ho2 ⟨_, dh2⟩
                        refine' st_end d' FN N' (fun p hp => hp) ha' ?hkLE ?hrLE ?hpLE
                        case hkLE => kst_all
                        case hrLE => kst_same
                        case hpLE =>
                          rw [ext_take hb, hl, ← List.append_assoc]
                          exact hD'
                      | false =>
                        w_top off
                        have hK2 := hok.le
                        have hzl : ∀ w ∈ Ks, (zone (textF w)).length ≤ 100 := fun w hw => zone_len (inlen (hok.mem w hw)).2
                        iterate 9 walk1
                        rename News _ _ _ _ => N9
                        rename Fr _ _ _ _ => F9
                        k_dflt (refine LCg.CompSrc.ledger (by rfl) F9 N9 (.tail _ (.tail _ (.tail _ (.tail _ (.tail _ (.tail _ (.tail _ (.tail _ (.tail _ hZt))))))))) ?hszLF ?_)
                        case hszLF =>
                          have h1 := congrArg List.length hz
                          simp only [List.length_map] at h1
                          simp only [strValues, List.size_toArray, List.length_map]
                          rw [sizeLine_eq]; omega
                        intro g2
                        refine rest_gen (fun i ys nw => nw = _ ∧ ∃ l : List (Str × Tok), ys = strValues l ∧ l.map (·.1) = (Ks.take i).map fun w => reprB (sufx w (x.tx.ns ++ [ℓ]))) ⟨rfl, [], rfl, rfl⟩ ?turnFLF ?finFLF
                        case turnFLF =>
                          rintro q v ys nw I oI C oC D' m₂ h tk E' hj hv2 ⟨rfl, l, rfl, hl'⟩ hC hx2 F N off ne
                          obtain ⟨w1, tz, hw1, rfl⟩ := strs_at hz (by simpa using hv2)
                          have hwK := List.mem_of_getElem? hw1
                          have hw14 := hok.mem _ hwK
                          have hzw := hzl _ hwK
                          have hud := ud_up hu62 hw14
                          rw [hH] at hud
                          iterate 20 walk1
                          refine' LCg.CompEnd.intro (by assumption) (by assumption) _ ?subLF off (.inr ⟨_, .tail _ (.tail _ (.tail _ (.tail _ (.tail _ (.tail _ (.tail _ (.tail _ (.tail _ hZt)))))))), rfl, _, rfl⟩) ⟨rfl, l ++ [(reprB (sufx w1 (x.tx.ns ++ [ℓ])), _)], strv_snoc _ _ _, ?_⟩
                          case subLF => exact fun p hp => hp
                          rw [map_take_snoc hw1, List.map_append, hl']
                          rfl
                        case finFLF =>
                          rintro ys nw ⟨rfl, lg, rfl, hlg⟩
                          intro Fb hFb tkG FG NG oG
                          have hlg2 : lg.map (·.1) = lf.map (·.1) := by
                            rw [hlg, hlf2, List.take_of_length_le]
                            · exact List.map_congr_left fun w hw => by rw [hsuf w hw]
                            · have h1 := congrArg List.length hz
                              simp only [List.length_map] at h1
                              simp [strValues, h1]
                          have fm := off1_mem oG
                          have g1' := fm _ (.head _)
                          have g2' := fm _ (.tail _ (.head _))
                          have g3' := fm _ (.tail _ (.tail _ (.head _)))
                          have g4' := fm _ (.tail _ (.tail _ (.tail _ (.head _))))
                          dsimp only at g1' g2' g3' g4'
                          clear fm oG
                          refine' ne_same (lx := lf) (ly := lg) (n := lf.length) (n' := lg.length) NG ?a1LF ?b1LF ?oxLF hlg2 ?uLF ?_
                          case a1LF => exact .tail _ strl_head
                          case b1LF => exact strl_head
                          case oxLF => rw [hlf2]; exact repr_ok _
                          case uLF => ktr_units
                          obtain ⟨xr, hxr1⟩ : ∃ xr, d.rows[firstI Ks (x.tx.ns ++ [ℓ])]? = some xr := by
                            have hlt := firstI_lt hfree
                            have h1 := congrArg List.length hD3.rn
                            rw [List.length_map, List.length_map, List.length_range] at h1
                            exact ⟨_, List.getElem?_eq_getElem (by omega)⟩
                          have hfi : firstI Ks (x.tx.ns ++ [ℓ]) < 2 := Nat.lt_of_lt_of_le (firstI_lt hfree) hK2
                          have hrowm : (xr.a, listOf xr.vs.toArray xr.n) ∈ entsOf d.rows ++ (d.junk ++ base5) := List.mem_append_left _ (List.mem_map_of_mem (List.mem_of_getElem? hxr1))
                          have hri9 : IntsAre xr.vs xr.ns := hD3.ri xr (List.mem_of_getElem? hxr1)
                          have hrl6 := row_len hD3 hxr1
                          have hEx := refs_same (rows := rows) (hD3.ra.trans hRA.symm) hxr1
                          iterate 16 walk1
                          iterate 9 walk1
                          rename News _ _ _ _ => N10
                          rename Fr _ _ _ _ => F10
                          refine' set_any F10 N10 (.tail _ (.tail _ (.tail _ (.tail _ (.tail _ (.tail _ (.tail _ (.tail _ (.tail _ (.tail _ hrowm)))))))))) hri9 ?h0LF ?h1LF ?hfitLF ?_
                          case h0LF => omega
                          case h1LF => omega
                          case hfitLF => omega
                          intro hE FE NE hiE
                          have hset : xr.ns.set (1 + (i : Int)).toNat (xr.ns.getD (1 + (i : Int)).toNat 0 + x.wt * wl) = xr.ns.set (i + 1) (xr.ns.getD (i + 1) 0 + worthF v0 v1 (x.tx.ns ++ [ℓ])) := by
                            rw [show (1 + (i : Int)).toNat = i + 1 by omega, worth_snoc, ← hwl, hxo.wt]
                          have hRA1 : ∀ a ∈ RA, @Ne Nat a it1 := by
                            intro a ha
                            rw [← hD.ra] at ha
                            obtain ⟨r, hr, rfl⟩ := List.mem_map.mp ha
                            exact ho1 r.ent (.tail _ (.tail _ (List.mem_append_right _ (List.mem_append_left _ (List.mem_map_of_mem hr)))))
                          obtain ⟨d', N', ha', hD'⟩ := end_end hi5 hD3 hfree hxr1 hiE hset NE (fun p hp => .tail _ (.tail _ hp)) hRA1 hnd1 (hD3.sub _ hP.hR) ho2 ⟨_, dh2⟩
                          k_steps
                          refine' st_end d' FE N' (fun p hp => hp) ha' ?hkLF ?hrLF ?hpLF
                          case hkLF => kst_all
                          case hrLF => kst_same
                          case hpLF =>
                            rw [ext_take hb, hl, ← List.append_assoc]
                            exact hD'
        case turnLB =>
          intro i v c u h tk it io hv hP ho F N
          obtain ⟨n, oh, ow, KL⟩ := c
          obtain ⟨hP1, ⟨vh, hPh⟩, ⟨vw, hPw⟩⟩ := hP
          dsimp only at hP1 hPh hPw N F ho
          obtain ⟨x, hx, rfl⟩ : ∃ x, WL[i]? = some x ∧ v = .ref x.a := by
            rw [refsOf, List.getElem?_map] at hv
            cases hw : WL[i]? with
            | none => rw [hw] at hv; cases hv
            | some x => rw [hw] at hv; cases hv; exact ⟨x, rfl, rfl⟩
          have hxW := List.mem_of_getElem? hx
          have hxm := hEm2 x hxW
          have hxi := hW5 x hxW
          have hx14 : x.ns ∈ words14 := words_14 hwa hwb x.ns (hW4 ▸ List.mem_map_of_mem hxW)
          have hx01 := in01 hx14
          obtain ⟨hx3, hx20⟩ := inlen hx14
          have hx10 : x.ns.length ≤ 10 := Nat.le_trans hx3 (by decide)
          have hit := ne5 ho
          have hitb := hit.2.2.2.2.2
          have hK' := hK
          iterate 2 walk1
          rename_i hq1 ow2 Fq1 Nq1 dw2
          iterate 18 walk1
          rename_i hq2 oh2 Fq2 Nq2 dh2
          iterate 4 walk1
          k_dflt (refine LCt.ListComp_T (F₀ := by k_asm) (by rfl) (by decide) (by rfl) (by decide) (by rfl) ?_)
          iterate 1 walk1
          rename News _ _ _ _ => N3
          rename Fr _ _ _ _ => F3
          have hws : WL.length ≤ 2 := by
            have := congrArg List.length hW4
            rw [List.length_map] at this
            rw [this]; unfold wordsOf; split <;> simp
          refine LCt.CompSrcT.ledger (by rfl) F3 N3 (.tail _ (.tail _ (.tail _ (.tail _ (.tail _ (.tail _ hWm2)))))) (by rw [List.size_toArray, List.length_map, sizeLine_eq]; omega) ?_
          intro g1
          refine rest_genT (fun i ys nw => nw = _ ∧ ys = refsOf ((WL.take i).filter fun o => !(o.ns == x.ns) && infx o.ns x.ns)) ⟨rfl, rfl⟩ ?turnCLB ?finCLB
          case finCLB =>
            rintro ys nw ⟨rfl, rfl⟩
            intro D h' tk' F' N' o1'
            have om := off1_mem o1'
            have om1 := om _ (.head _)
            have om2 := om _ (.tail _ (.head _))
            have om3 := om _ (.tail _ (.tail _ (.head _)))
            have om4 := om _ (.tail _ (.tail _ (.tail _ (.head _))))
            have om5 := om _ (.tail _ (.tail _ (.tail _ (.tail _ (.head _)))))
            have om6 := om _ (.tail _ (.tail _ (.tail _ (.tail _ (.tail _ (.head _))))))
            have omb : ∀ p ∈ base2, @Ne Nat p.1 D := fun p hp => om p (.tail _ (.tail _ (.tail _ (.tail _ (.tail _ (.tail _ hp))))))
            dsimp only at om1 om2 om3 om4 om5 om6
            iterate 3 walk1
            rename News _ _ _ _ => N4
            refine' eq_nil (l := (WL.take (refsOf WL).toArray.size).filter fun o => !(o.ns == x.ns) && infx o.ns x.ns) N4 (.tail _ (.head _)) ?hmLB ?hgLB (.head _) ?huLB ?_
            case hmLB => exact fun z hz => .tail _ (.tail _ (.tail _ (.tail _ (.tail _ (.tail _ (.tail _ (.tail _ (hEm2 z (List.mem_of_mem_take (List.mem_filter.mp hz).1)))))))))
            case hgLB => exact fun z hz => hW5 z (List.mem_of_mem_take (List.mem_filter.mp hz).1)
            case huLB => ktr_units
            have hkeep : decide ((WL.take (refsOf WL).toArray.size).filter (fun o => !(o.ns == x.ns) && infx o.ns x.ns) = []) = keepW (WL.map (·.ns)) x.ns := keep_eq WL x.ns (by simp)
            rw [hkeep]
            have hKL2 : KL.length ≤ 2 := by
              rw [hP1]
              exact Nat.le_trans (List.length_filter_le _ _) (Nat.le_trans (List.length_take_le' _ _) hws)
            have epush : (refsOf (KL ++ [x])).toArray = (refsOf KL).toArray.push (.ref x.a) := by simp [refsOf]
            k_steps
            · rename keepW _ _ = true => hkw
              refine' st_endG (n + 1, oh2, ow2, KL ++ [x]) (by assumption) (by assumption) ?subLB ?haLB ?hkLB ?hrLB ?hpLB
              case subLB =>
                intro p hp
                refine .tail _ (.tail _ ?_)
                dsimp only at hp
                rw [epush] at hp
                exact hp
              case haLB =>
                intro p hp
                rcases List.mem_cons.mp hp with rfl | hp
                · exact hit.1
                · exact mem_swap2 hit hp
              case hkLB => kst_all
              case hrLB => intro z _ _; rfl
              case hpLB => exact ⟨by dsimp only; rw [take_filter hx, if_pos hkw, ← hP1], ⟨_, dh2⟩, ⟨_, dw2⟩⟩
            · rename keepW _ _ = false => hkw
              refine' st_endG (n, oh2, ow2, KL) (by assumption) (by assumption) ?subLB ?haLB ?hkLB ?hrLB ?hpLB
              case subLB => exact fun p hp => .tail _ (.tail _ hp)
              case haLB =>
                intro p hp
                rcases List.mem_cons.mp hp with rfl | hp
                · exact hit.1
                · exact mem_swap2 hit hp
              case hkLB => kst_all
              case hrLB => intro z _ _; rfl
              case hpLB => exact ⟨by dsimp only; rw [take_filter hx, if_neg (by rw [hkw]; exact Bool.false_ne_true), List.append_nil, ← hP1], ⟨_, dh2⟩, ⟨_, dw2⟩⟩
          case turnCLB =>
            rintro j v ys nw I oI C oC D m₂ h tk E' hj hv2 ⟨rfl, rfl⟩ hC hx2 F N off ne
            obtain ⟨o, ho1, rfl⟩ : ∃ o, WL[j]? = some o ∧ v = .ref o.a := by
              rw [List.getElem?_toArray, refsOf, List.getElem?_map] at hv2
              cases hw : WL[j]? with
              | none => rw [hw] at hv2; cases hv2
              | some x => rw [hw] at hv2; cases hv2; exact ⟨x, rfl, rfl⟩
            have hoW := List.mem_of_getElem? ho1
            have hom := hEm2 o hoW
            have hoi := hW5 o hoW
            have ho14 : o.ns ∈ words14 := words_14 hwa hwb o.ns (hW4 ▸ List.mem_map_of_mem hoW)
            have ho01 := in01 ho14
            obtain ⟨ho3, ho20⟩ := inlen ho14
            have ho10 : o.ns.length ≤ 10 := Nat.le_trans ho3 (by decide)
            have hdm := dm_low hx14 ho14
            iterate 6 walk1
            k_steps
            · rename o.ns = x.ns => e1
              refine' LCg.CompEnd.intro F N _ ?subLB off (.inr ⟨_, .tail _ (.tail _ (.tail _ (.tail _ (.tail _ (.tail _ hWm2))))), rfl, _, rfl⟩) ⟨rfl, ?_⟩
              case subLB => exact fun p hp => hp
              rw [take_filter ho1, if_neg (by simp [e1]), List.append_nil]
            · rename infx _ _ = true => e1
              rename ¬ o.ns = x.ns => e2
              refine' LCg.CompEnd.intro (by assumption) (by assumption) _ ?subLB off (.inr ⟨_, .tail _ (.tail _ (.tail _ (.tail _ (.tail _ (.tail _ hWm2))))), rfl, _, rfl⟩) ⟨rfl, ?_⟩
              case subLB => exact fun p hp => hp
              rw [take_filter ho1, if_pos (by simp [e1, e2]), refsOf, refsOf, List.map_append]
              rfl
            · rename infx _ _ = false => e1
              refine' LCg.CompEnd.intro (by assumption) (by assumption) _ ?subLB off (.inr ⟨_, .tail _ (.tail _ (.tail _ (.tail _ (.tail _ (.tail _ hWm2))))), rfl, _, rfl⟩) ⟨rfl, ?_⟩
              case subLB => exact fun p hp => hp
              rw [take_filter ho1, if_neg (by simp [e1]), List.append_nil]
    case turnLA =>
      intro i t c u h tk it io hlt hP ho F N
      have hm : ((0 : Int) + (i : Int)) % 4 = 0 ∨ ((0 : Int) + (i : Int)) % 4 = 1 ∨ ((0 : Int) + (i : Int)) % 4 = 2 ∨ ((0 : Int) + (i : Int)) % 4 = 3 := by omega
      have hm : ((0 : Int) + (i : Int)).fmod 4 = 0 ∨ ((0 : Int) + (i : Int)).fmod 4 = 1 ∨ ((0 : Int) + (i : Int)).fmod 4 = 2 ∨ ((0 : Int) + (i : Int)).fmod 4 = 3 := by
        rw [Int.fmod_eq_emod_of_nonneg _ (by decide)]
        omega
      have hne : @Ne Nat _ it := ho _ (.head _)
      iterate 7 walk1
      rcases hm with hm | hm | hm | hm
      all_goals rw [hm]
      all_goals iterate 8 walk1
      · refine' st_end ⟨c.a + _, c.b, c.c, c.d, _, _, _, _, _⟩ (by assumption) (by assumption) (fun p hp => hp) (off_head ho) ?hkLA ?hrLA ?hpLA
        case hkLA => kst_all
        case hrLA => kst_same
        case hpLA => exact ok_a hP (bits_getD hLay _)
      · refine' st_end ⟨c.a, c.b + _, c.c, c.d, _, _, _, _, _⟩ (by assumption) (by assumption) (fun p hp => hp) (off_head ho) ?hkLA ?hrLA ?hpLA
        case hkLA => kst_all
        case hrLA => kst_same
        case hpLA => exact ok_b hP (bits_getD hLay _)
      · refine' st_end ⟨c.a, c.b, c.c + _, c.d, _, _, _, _, _⟩ (by assumption) (by assumption) (fun p hp => hp) (off_head ho) ?hkLA ?hrLA ?hpLA
        case hkLA => kst_all
        case hrLA => kst_same
        case hpLA => exact ok_c hP (bits_getD hLay _)
      · refine' st_end ⟨c.a, c.b, c.c, c.d + _, _, _, _, _, _⟩ (by assumption) (by assumption) (fun p hp => hp) (off_head ho) ?hkLA ?hrLA ?hpLA
        case hkLA => kst_all
        case hrLA => kst_same
        case hpLA => exact ok_d hP (bits_getD hLay _)
    all_goals k_data)
theorem PySem.Challenge.cw_wn0092_01_holds : PySem.Challenge.rw_wn0092_01.Holds :=
  Mine.main
