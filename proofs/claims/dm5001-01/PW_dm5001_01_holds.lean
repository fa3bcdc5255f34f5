import PyProof.Rows.All
import Wide.All
import OpenK.AllK
import Wide.FinOn
import OpenK.KEqL
import KE.BytesMake
import KE.IntText
import KE.KxDecode
import PySem.Challenge.RW_dm5001_01
set_option Elab.async false
set_option maxRecDepth 100000

namespace Mine
open PySem PyProof.Rows
open PySem.Builtin PySem.NumText

/-- the code of a hex digit below 16, capital -/
def hexD (d : Nat) : Nat := if d < 10 then 48 + d else 55 + d
def hexCs (c : Nat) : List Nat := [hexD (c / 16), hexD (c % 16)]
def hexStr (c : Nat) : Str := ⟨#[hexD (c / 16), hexD (c % 16)]⟩

theorem hex_parts : ∀ c : Fin 256, (sign ((hexCs c.val).dropWhile blank)).1 = false ∧ based 16 (sign ((hexCs c.val).dropWhile blank)).2 = (16, false, hexCs c.val) ∧
    digits? 16 (((hexCs c.val).reverse.dropWhile blank).reverse) = some #[c.val / 16, c.val % 16] ∧ (hexCs c.val).takeWhile (· != 0) = hexCs c.val ∧ (hexStr c.val).cps.all (· < 128) = true := by decide +kernel

theorem hex_reads (c : Nat) (h : c < 256) : (int_private% "readNumeral") 0 16 (hexCs c) = (int_private% "Numeral.value") (c : Int) := by
  obtain ⟨h1, h2, h3, _, _⟩ := hex_parts ⟨c, h⟩
  dsimp only at h1 h2 h3
  refine (readNumeral_eq 0 16 (hexCs c)).trans ?_
  rw [h1, h2, h3]
  show (int_private% "Numeral.value") (((0 * 16 + c / 16) * 16 + c % 16 : Nat) : Int) = _
  rw [show (0 * 16 + c / 16) * 16 + c % 16 = c by omega]

section
variable {M : Model} {A : Around} {E : Value → Shared → Prop} {s : Shared}
theorem hex_int {c : Nat} (h : c < 256) {v : Value} {Q : Value → Shared → Prop} (hQ : Q (.int c s.toks) { s with toks := s.toks + 1 }) :
    wpAny M A ((int_private% "intFromText") v (hexCs c) 16) Q E s := by
  obtain ⟨_, _, _, h4, _⟩ := hex_parts ⟨c, h⟩
  dsimp only at h4
  show wpAny M A (if ((hexCs c).takeWhile (· != 0)).length ≤ 640 then _ else _) Q E s
  rw [h4, if_pos (show (hexCs c).length ≤ 640 from Nat.le_of_ble_eq_true rfl)]
  refine wpAny_bind (wpAny_pure ?_)
  dsimp only
  rw [hex_reads c h]
  dsimp only
  rw [if_pos (show ((hexCs c).length == (hexCs c).length) = true from rfl)]
  exact wpAny_mkInt hQ
end

theorem int_new_tree (c : Nat) (t u : Tok) : «int.__new__» ⟨[.type "int", .str (hexStr c) t, .int 16 u], []⟩ = (do
    let v ← (int_private% "intFromText") (.str (hexStr c) t) (if (hexStr c).cps.all (· < 128) then (hexStr c).cps.toList else Unicode.numberText (hexStr c).cps.toList) 16
    ret v) := by kernel_rfl

theorem int16_typeCall (a b : Value) : checkTypeCall "int" ⟨[a, b], []⟩ = pure () := by kernel_rfl
theorem int16_newCall (a b : Value) : checkBuiltinCall "int.__new__" ⟨[.type "int", a, b], []⟩ = pure () := by kernel_rfl
theorem int16_init (a b obj : Value) : argsOk "object.__init__" ⟨[obj, a, b], []⟩ := by
  unfold argsOk; rw [signature?_of (id := "object.__init__") (n := ['_', '_', 't', 'i', 'n', 'i', '_', '_']) (o := ['t', 'c', 'e', 'j', 'b', 'o']) (by kernel_rfl) F.owner_object]; kernel_rfl

theorem int16_gives {c : Nat} (h : c < 256) (t u : Tok) : Gives («int.__new__» ⟨[.type "int", .str (hexStr c) t, .int 16 u], []⟩) (.int c) :=
  .of_wp fun M A E s Q hQ => by
    rw [int_new_tree]
    obtain ⟨_, _, _, _, h5⟩ := hex_parts ⟨c, h⟩
    dsimp only at h5
    rw [if_pos h5]
    refine wpAny_bind (hex_int h (v := .str (hexStr c) t) ?_)
    exact wpAny_pure ⟨_, rfl, hQ⟩

section
variable {prog : Program} {w : World} {A : Around} {E : Value → Shared → Prop} {s : Shared}
theorem call_int16 {c : Nat} (h : c < 256) {t u : Tok} {Q : Value → Shared → Prop} (hQ : Q (.int c s.toks) { s with toks := s.toks + 1 }) :
    wpAny (model prog w) A (call (.type "int") [.str (hexStr c) t, .int 16 u]) Q E s :=
  callType_new F.called_int F.newNe_int (int16_typeCall _ _) (int16_newCall _ _) (fun obj => int16_init _ _ obj) F.entry_int_new (int16_gives h t u).meets
    (show (Made.int c).post _ s from ⟨rfl, hQ⟩)
end
end Mine

namespace Mine
open PySem PyProof.Rows
open PySem.Builtin.Re

def reCode : Array Nat := #[14, 8, 1, 3, 3, 1, 1, 61, 0, 16, 61, 24, 16, 2, 2, 13, 11, 9, 0, 67043328, 126, 126, 0, 0, 0, 0, 0, 1, 1]

/-- a hex digit, as the pattern's set says it -/
def isHex (c : Nat) : Bool := (48 ≤ c && c ≤ 57) || (65 ≤ c && c ≤ 70) || (97 ≤ c && c ≤ 102)

abbrev SM := PySem.Sre.M

def scanAt (text : Array Nat) (lim s : Nat) (o : Bool) (seen : PySem.Sre.Seen) : SM :=
  { code := reCode, text := text, lim := lim, start := s, lastStart := lim, wholeText := false, mustAdvance := false, pc := 9, pos := s, handed := s,
    outermost := o, marks := #[], lastmark := -1, lastindex := -1, loops := #[], inner := none,
    frames := [{ wait := .nextStart, pc := 9, pos := s, outermost := o }], weight := 1, answer := none, seen := seen, outcome := none }

theorem re_header : PySem.Sre.header reCode = (3, 9) := by decide +kernel

theorem search_opens (text : Array Nat) (s lim : Nat) (h : s + 3 ≤ lim) : ∃ seen, PySem.Sre.forSearch reCode text 0 s lim false = scanAt text lim s true seen := by
  refine ⟨({} : PySem.Sre.Seen).add 14, ?_⟩
  unfold PySem.Sre.forSearch
  have hh : (decide (s > lim) || decide (lim - s < 3)) = false := by
    rw [Bool.or_eq_false_iff]; exact ⟨decide_eq_false (by omega), decide_eq_false (by omega)⟩
  simp only [re_header, hh]
  rfl

theorem search_short (text : Array Nat) (s lim : Nat) (h : lim < s + 3) : ∃ m, PySem.Sre.forSearch reCode text 0 s lim false = m ∧ (m.runFor 1).outcome = some .failed := by
  refine ⟨_, rfl, ?_⟩
  unfold PySem.Sre.forSearch
  have hh : (decide (s > lim) || decide (lim - s < 3)) = true := by
    by_cases q : s > lim
    · simp [q]
    · simp; omega
  simp only [re_header, hh]
  rfl

theorem runFor_step {m : SM} (h : m.outcome = none) (n : Nat) : m.runFor (n + 1) = m.step.runFor n := by
  show (if m.outcome.isSome = true then m else m.step.runFor n) = _
  rw [h]; rfl
theorem runFor_done {m : SM} (h : m.outcome.isSome = true) : ∀ n, m.runFor n = m
  | 0 => rfl
  | n + 1 => by
    show (if m.outcome.isSome = true then m else m.step.runFor n) = _
    rw [h]; rfl
theorem runFor_add : ∀ (a b : Nat) (m : SM), m.runFor (a + b) = (m.runFor a).runFor b
  | 0, b, m => by rw [Nat.zero_add]; rfl
  | a + 1, b, m => by
    by_cases h : m.outcome.isSome = true
    · rw [runFor_done h, runFor_done h, runFor_done h]
    · have h' : m.outcome = none := by cases q : m.outcome with
        | none => rfl
        | some x => rw [q] at h; exact absurd rfl h
      rw [show a + 1 + b = (a + b) + 1 by omega, runFor_step h', runFor_step h', runFor_add a b]

theorem scan_miss (text : Array Nat) (lim s : Nat) (o : Bool) (seen) (h : s < lim) (hc : text.getD s 0 ≠ 61) :
    (scanAt text lim s o seen).step = { scanAt text lim s o (seen.add 16) with answer := some false } := by
  have hd : ¬ (s ≥ lim) := by omega
  have hb : (text.getD s 0 == 61) = false := by simpa using hc
  show (if s ≥ lim then _ else (match (Except.ok (text.getD s 0 == 61, seen.add 16) : Except String (Bool × PySem.Sre.Seen)) with | .error why => _ | .ok (false, seen) => _ | .ok (true, seen) => _)) = _
  rw [if_neg hd, hb]
  rfl
theorem scan_next (text : Array Nat) (lim s : Nat) (o : Bool) (seen) (h : s < lim) :
    ({ scanAt text lim s o seen with answer := some false } : SM).step = scanAt text lim (s + 1) false seen := by
  show (if s < lim then _ else _) = _
  rw [if_pos h]
  rfl

theorem scan_skip (text : Array Nat) (lim s : Nat) (o : Bool) (seen) (h : s < lim) (hc : text.getD s 0 ≠ 61) :
    (scanAt text lim s o seen).runFor 2 = scanAt text lim (s + 1) false (seen.add 16) := by
  rw [runFor_step rfl, scan_miss text lim s o seen h hc, runFor_step rfl, scan_next text lim s o _ h]
  rfl

theorem scan_to (text : Array Nat) (lim : Nat) : ∀ (k s : Nat) (o : Bool) (seen), s + k ≤ lim → (∀ i, s ≤ i → i < s + k → text.getD i 0 ≠ 61) →
    ∃ o' seen', (scanAt text lim s o seen).runFor (2 * k) = scanAt text lim (s + k) o' seen'
  | 0, s, o, seen, _, _ => ⟨o, seen, rfl⟩
  | k + 1, s, o, seen, h, hc => by
    obtain ⟨o', seen', e⟩ := scan_to text lim k (s + 1) false (seen.add 16) (by omega) fun i h1 h2 => hc i (by omega) (by omega)
    refine ⟨o', seen', ?_⟩
    rw [show 2 * (k + 1) = 2 + 2 * k by omega, runFor_add, scan_skip text lim s o seen (by omega) (hc s (by omega) (by omega)), e, show s + 1 + k = s + (k + 1) by omega]

theorem scan_end (text : Array Nat) (lim : Nat) (o : Bool) (seen) : ((scanAt text lim lim o seen).runFor 3).outcome = some .failed := by
  have e1 : (scanAt text lim lim o seen).step = { scanAt text lim lim o (seen.add 16) with answer := some false } := by
    show (if lim ≥ lim then _ else _) = _
    rw [if_pos (Nat.le_refl _)]
    rfl
  rw [runFor_step rfl, e1]
  have e2 : ({ scanAt text lim lim o (seen.add 16) with answer := some false } : SM).step = { scanAt text lim lim o (seen.add 16) with answer := some false, frames := [], weight := 0 } := by
    show (if lim < lim then _ else _) = _
    rw [if_neg (Nat.lt_irrefl _)]
    rfl
  rw [runFor_step rfl, e2]
  rfl
theorem hex_small {c : Nat} (h : isHex c = true) : c < 128 := by
  unfold isHex at h
  simp only [Bool.or_eq_true, Bool.and_eq_true, decide_eq_true_eq] at h
  omega
theorem hex_bits : ∀ c : Fin 128, isHex c.val = true → (decide (c.val < 256) && (reCode.getD (17 + (1 + c.val / 32)) 0).testBit (c.val % 32)) = true := by decide +kernel

theorem takes_hex (c : Nat) (seen) (h : isHex c = true) : PySem.Sre.accepts reCode 15 c seen = .ok (true, seen.add 9) := by
  have hb := hex_bits ⟨c, hex_small h⟩ h
  show (if (decide (c < 256) && (reCode.getD (17 + (1 + c / 32)) 0).testBit (c % 32)) = true then (Except.ok (true, seen.add 9) : Except String (Bool × PySem.Sre.Seen)) else _) = _
  rw [if_pos hb]

theorem run_two (text : Array Nat) (p : Nat) (seen) (h1 : isHex (text.getD p 0) = true) (h2 : isHex (text.getD (p + 1) 0) = true) :
    PySem.Sre.run reCode text 15 2 p 0 seen = .ok (2, (seen.add 9).add 9) := by
  show (do let (yes, seen) ← PySem.Sre.accepts reCode 15 (text.getD p 0) seen; if yes then PySem.Sre.run reCode text 15 1 (p + 1) 1 seen else pure (0, seen)) = _
  rw [takes_hex _ _ h1]
  show (do let (yes, seen) ← PySem.Sre.accepts reCode 15 (text.getD (p + 1) 0) (seen.add 9); if yes then PySem.Sre.run reCode text 15 0 (p + 1 + 1) 2 seen else pure (1, seen)) = _
  rw [takes_hex _ _ h2]
  rfl

theorem scan_hit (text : Array Nat) (lim s : Nat) (o : Bool) (seen) (h : s + 3 ≤ lim) (hc : text.getD s 0 = 61) (h1 : isHex (text.getD (s + 1) 0) = true) (h2 : isHex (text.getD (s + 2) 0) = true) :
    ∃ m, (scanAt text lim s o seen).runFor 6 = m ∧ m.outcome = some .matched ∧ m.start = s ∧ m.handed = s + 3 ∧ m.lastmark = -1 ∧ m.lastindex = -1 ∧ m.marks = #[] := by
  have e1 : (scanAt text lim s o seen).step = { scanAt text lim s o (seen.add 16) with pc := 11, pos := s + 1 } := by
    have hd : ¬ (s ≥ lim) := by omega
    have hb : (text.getD s 0 == 61) = true := by simpa using hc
    show (if s ≥ lim then _ else (match (Except.ok (text.getD s 0 == 61, seen.add 16) : Except String (Bool × PySem.Sre.Seen)) with | .error why => _ | .ok (false, seen) => _ | .ok (true, seen) => _)) = _
    rw [if_neg hd, hb]
    rfl
  rw [runFor_step rfl, e1]
  have e2 : ∃ sn, ({ scanAt text lim s o (seen.add 16) with pc := 11, pos := s + 1 } : SM).step = { scanAt text lim s o sn with
      pc := 28, pos := s + 3, handed := s + 3, weight := 2,
      frames := [{ wait := .giveBack, pc := 11, pos := s + 3, outermost := o, count := 2, kept := { lastmark := -1, lastindex := -1, whole := false, marks := #[] } }, { wait := .nextStart, pc := 9, pos := s, outermost := o }] } := by
    refine ⟨(((((seen.add 16).add 24).add 13).add 9).add 9), ?_⟩
    have hr : ¬ (((2 : Nat) : Int) > (lim : Int) - ((s + 1 : Nat) : Int)) := by omega
    have hm : min 2 ((lim : Int) - ((s + 1 : Nat) : Int)).toNat = 2 := by omega
    show (if ((2 : Nat) : Int) > (lim : Int) - ((s + 1 : Nat) : Int) then _ else
      (match PySem.Sre.run reCode text 15 (min 2 ((lim : Int) - ((s + 1 : Nat) : Int)).toNat) (s + 1) 0 (((seen.add 16).add 24).add 13) with | .error why => _ | .ok (n, seen) => _)) = _
    rw [if_neg hr, hm, run_two text (s + 1) _ h1 h2]
    rfl
  obtain ⟨sn, e2⟩ := e2
  rw [runFor_step rfl, e2]
  have e3 : ∃ sn', ({ scanAt text lim s o sn with
      pc := 28, pos := s + 3, handed := s + 3, weight := 2,
      frames := [{ wait := .giveBack, pc := 11, pos := s + 3, outermost := o, count := 2, kept := { lastmark := -1, lastindex := -1, whole := false, marks := #[] } }, { wait := .nextStart, pc := 9, pos := s, outermost := o }] } : SM).runFor 4 =
      { scanAt text lim s o sn' with frames := [], weight := 0, handed := s + 3, answer := some true, outcome := some .matched } := by
    refine ⟨sn.add 1, ?_⟩
    cases o <;> kernel_rfl
  obtain ⟨sn', e3⟩ := e3
  rw [e3]
  exact ⟨_, rfl, rfl, rfl, rfl, rfl, rfl, rfl⟩
section
variable {M : Model} {A : Around} {E : Value → Shared → Prop} {s : Shared}

theorem drive_to : ∀ (turns : Nat) (m : SM) (n : Nat) {Q : SM → Shared → Prop}, n ≤ 4 * turns → 0 < turns → (m.runFor n).outcome.isSome = true → Q (m.runFor n) s → wpAny M A (reDrive turns m) Q E s
  | 0, _, _, _, _, h0, _, _ => absurd h0 (Nat.lt_irrefl _)
  | turns + 1, m, n, Q, hn, _, ho, hQ => by
    rw [reDrive]
    by_cases h4 : (m.runFor 4).outcome.isSome = true
    · have e : m.runFor n = m.runFor 4 := by
        by_cases hle : n ≤ 4
        · have := runFor_add n (4 - n) m
          rw [show n + (4 - n) = 4 by omega, runFor_done ho] at this
          exact this.symm
        · have := runFor_add 4 (n - 4) m
          rw [show 4 + (n - 4) = n by omega, runFor_done h4] at this
          exact this
      rw [e] at hQ
      show wpAny M A (if (m.runFor 4).outcome.isSome = true then pure (m.runFor 4) else _) Q E s
      rw [if_pos h4]
      exact wpAny_pure hQ
    · have h4n : ¬ n ≤ 4 := fun hle => by
        have := runFor_add n (4 - n) m
        rw [show n + (4 - n) = 4 by omega, runFor_done ho] at this
        rw [this] at h4
        exact h4 ho
      have e := runFor_add 4 (n - 4) m
      rw [show 4 + (n - 4) = n by omega] at e
      rw [e] at ho hQ
      show wpAny M A (if (m.runFor 4).outcome.isSome = true then pure (m.runFor 4) else _) Q E s
      rw [if_neg h4]
      exact wpAny_bind (wpAny_rule (drive_to turns (m.runFor 4) (n - 4) (by omega) (by omega) ho hQ))

theorem run_to_end {m m' : SM} {n : Nat} {Q : Option SM → Shared → Prop} (hn : n ≤ 2 ^ 62) (e : m.runFor n = m')
    (h : (m'.outcome = some .matched ∧ Q (some m') s) ∨ (m'.outcome = some .failed ∧ Q none s)) : wpAny M A (reRunToEnd m) Q E s := by
  subst e
  have ho : (m.runFor n).outcome.isSome = true := by
    rcases h with ⟨h, _⟩ | ⟨h, _⟩ <;> (rw [h]; rfl)
  unfold reRunToEnd
  refine wpAny_bind (drive_to (2 ^ 64) m n (by omega) (by omega) ho ?_)
  refine wpAny_bind (wpAny_forIn_list _ (fun _ _ s' => s' = s) _ (fun i rest b s' hs => ?_) (fun b s' hs => ?_) _ _ rfl)
  · subst hs
    refine wpAny_ite ?_
    split
    · exact wpAny_bind (wpAny_rule (wpAny_pure rfl))
    · exact wpAny_pure rfl
  · subst hs
    rcases h with ⟨h, hQ⟩ | ⟨h, hQ⟩
    · rw [h]; exact wpAny_pure hQ
    · rw [h]; exact wpAny_pure hQ
theorem next_hit {t : ReTarget} {start p : Nat} {Q : Option SM → Shared → Prop} (hc : t.code = reCode) (hg : t.groups = 0) (h0 : start ≤ p) (hl : p + 3 ≤ t.lim) (hz : t.lim ≤ 2 ^ 60)
    (hf : ∀ i, start ≤ i → i < p → t.text.getD i 0 ≠ 61) (h61 : t.text.getD p 0 = 61) (h1 : isHex (t.text.getD (p + 1) 0) = true) (h2 : isHex (t.text.getD (p + 2) 0) = true)
    (h : ∀ m : SM, m.start = p → m.handed = p + 3 → m.lastmark = -1 → m.lastindex = -1 → m.marks = #[] → Q (some m) s) : wpAny M A (reNextFound t start false) Q E s := by
  unfold reNextFound
  rw [hc, hg]
  obtain ⟨seen, e⟩ := search_opens t.text start t.lim (by omega)
  rw [e]
  obtain ⟨o', seen', e1⟩ := scan_to t.text t.lim (p - start) start true seen (by omega) fun i a b => hf i a (by omega)
  rw [show start + (p - start) = p by omega] at e1
  obtain ⟨m, e2, ho, a1, a2, a3, a4, a5⟩ := scan_hit t.text t.lim p o' seen' hl h61 h1 h2
  refine run_to_end (n := 2 * (p - start) + 6) (m' := m) (by omega) (by rw [runFor_add, e1, e2]) (.inl ⟨ho, h m a1 a2 a3 a4 a5⟩)

theorem next_none {t : ReTarget} {start : Nat} {Q : Option SM → Shared → Prop} (hc : t.code = reCode) (hg : t.groups = 0) (h0 : start ≤ t.lim) (hz : t.lim ≤ 2 ^ 60)
    (hf : ∀ i, start ≤ i → i < t.lim → t.text.getD i 0 ≠ 61) (h : Q none s) : wpAny M A (reNextFound t start false) Q E s := by
  unfold reNextFound
  rw [hc, hg]
  by_cases q : t.lim < start + 3
  · obtain ⟨m, e, ho⟩ := search_short t.text start t.lim q
    rw [e]
    exact run_to_end (n := 1) (by omega) rfl (.inr ⟨ho, h⟩)
  · obtain ⟨seen, e⟩ := search_opens t.text start t.lim (by omega)
    rw [e]
    obtain ⟨o', seen', e1⟩ := scan_to t.text t.lim (t.lim - start) start true seen (by omega) fun i a b => hf i a (by omega)
    rw [show start + (t.lim - start) = t.lim by omega] at e1
    exact run_to_end (n := 2 * (t.lim - start) + 3) (by omega) rfl (.inr ⟨by rw [runFor_add, e1]; exact scan_end _ _ _ _, h⟩)
end
end Mine

namespace Mine
open PySem PySem.W PyProof.Rows PySem.Calls

/-! the text's defs, taken out of the program by their place -/
def topSt (k : Nat) : Stmt := PySem.Challenge.pw_dm5001_01.main.body.getD k (.Pass default)
def stArgs : Stmt → Arguments
  | .FunctionDef _ a _ _ _ _ _ _ _ _ => a
  | _ => default
def stBody : Stmt → List Stmt
  | .FunctionDef _ _ b _ _ _ _ _ _ _ => b
  | _ => []
def stScope : Stmt → Scope
  | .FunctionDef _ _ _ _ _ _ sc _ _ _ => sc
  | _ => default
abbrev fnArgs (k : Nat) : Arguments := stArgs (topSt k)
abbrev fnBody (k : Nat) : List Stmt := stBody (topSt k)
abbrev fnScope (k : Nat) : Scope := stScope (topSt k)

abbrev Keeps (h h' : Heap) : Prop := ∀ b o, h.get? b = some o → h'.get? b = some o
theorem Keeps.rfl {h : Heap} : Keeps h h := fun _ _ e => e
theorem Keeps.trans {h h' h'' : Heap} (a : Keeps h h') (b : Keeps h' h'') : Keeps h h'' := fun x o e => b x o (a x o e)
theorem Keeps.push {h : Heap} (o : Obj) : Keeps h (h.push o) := fun _ _ e => Heap.get?_push_of_some _ e

/-- the plain def number k stands at a -/
def FnAt (h : Heap) (a : Addr) (name : Str) (k : Nat) : Prop :=
  ∃ o pm cd doc, h.get? a = some o ∧ o.data = .func (docDef name (fnArgs k) (fnBody k) (fnScope k) pm cd doc) ∧ h.CodeRec cd name ∧ o.cls = .type "function"
theorem FnAt.keeps {h h' : Heap} {a : Addr} {name : Str} {k : Nat} (x : FnAt h a name k) (hk : Keeps h h') : FnAt h' a name k :=
  let ⟨o, pm, cd, doc, h1, h2, h3, h4⟩ := x; ⟨o, pm, cd, doc, hk _ _ h1, h2, h3.keeps hk, h4⟩

def safeCs : List Nat := [97, 98, 99, 100, 101, 102, 103, 104, 105, 106, 107, 108, 109, 110, 111, 112, 113, 114, 115, 116, 117, 118, 119, 120, 121, 122, 65, 66, 67, 68, 69, 70, 71, 72, 73, 74, 75, 76, 77, 78, 79, 80, 81, 82, 83, 84, 85, 86, 87, 88, 89, 90, 48, 49, 50, 51, 52, 53, 54, 55, 56, 57, 45, 33, 42, 43, 47, 61, 95]
def plainC (c : Nat) : Bool := safeCs.contains c && c != 61 && c != 95
/-- what the header map writes for one octet -/
def enc1 (c : Nat) : List Nat := if plainC c then [c] else if c = 32 then [95] else [61, hexD (c / 16), hexD (c % 16)]
def namesL : List Str := ["iso-8859-1", "utf-8", "x", "US-ASCII"]
def piecesL : List Str := ["?", "=", "_", " ", "\n", "=?x?q?a?=", "?=", "=?", "?q?", "a b", "é", "=3F", "-", "\u0000", "=20", "k"]

def ownL : List (Str × Value) := [("unquote", .ref 59), ("header_encode", .ref 67), ("_unquote_match", .ref 79), ("header_decode", .ref 86), ("_law_NAMES", .ref 87), ("_law_PIECES", .ref 88),
  ("_law_row", .ref 95), ("_law_octets", .ref 100), ("_law_line", .ref 107), ("_law_scan", .ref 114), ("_QUOPRI_HEADER_MAP", .ref 44), ("_twin_re_1", .ref 36), ("_law_SAFE", .str ⟨safeCs.toArray⟩ 1918)]
def bltL : List (Str × Value) := [("chr", .builtin "chr"), ("ord", .builtin "ord"), ("len", .builtin "len"), ("int", .type "int"), ("bytes", .type "bytes"), ("range", .type "range")]
def fnL : List (Addr × Str × Nat) := [(59, "unquote", 13), (79, "_unquote_match", 18), (86, "header_decode", 19), (95, "_law_row", 24), (100, "_law_octets", 25), (107, "_law_line", 26), (114, "_law_scan", 27)]

def patTuple : Array Value := #[.int 14 0, .int 8 0, .int 1 0, .int 3 0, .int 3 0, .int 1 0, .int 1 0, .int 61 0, .int 0 0, .int 16 0, .int 61 0, .int 24 0, .int 16 0, .int 2 0, .int 2 0, .int 13 0, .int 11 0, .int 9 0,
  .int 0 0, .int 67043328 0, .int 126 0, .int 126 0, .int 0 0, .int 0 0, .int 0 0, .int 0 0, .int 0 0, .int 1 0, .int 1 0]
/-- the compiled pattern of the text stands at 36, its words at 35 -/
structure PatAt (h : Heap) : Prop where
  at_ : ∃ o ot v1 v2 v3 v4 n, h.get? 36 = some o ∧ o.cls = .type "re.Pattern" ∧ o.dict = none ∧ o.data = .fields #[v1, v2, .int 0 0, v3, v4, .ref 35, .int 0 0] ∧
    h.get? 35 = some ot ∧ ot.data = .seq patTuple n
theorem PatAt.keeps {h h' : Heap} (x : PatAt h) (hk : Keeps h h') : PatAt h' := by
  obtain ⟨o, ot, v1, v2, v3, v4, n, h1, h2, h3, h4, h5, h6⟩ := x.at_
  exact ⟨o, ot, v1, v2, v3, v4, n, hk _ _ h1, h2, h3, h4, hk _ _ h5, h6⟩

/-- the items of a written table of texts -/
def TextsAre (items : Array Value) (xs : List Str) : Prop := items.size = xs.length ∧ ∀ (i : Nat) (x : Str), xs[i]? = some x → ∃ t : Tok, items[i]? = some (Value.str x t)
def mapL : List Str := (List.range 256).map fun c => ⟨(enc1 c).toArray⟩

/-- header_encode, with a default for its charset -/
def HeAt (h : Heap) : Prop :=
  ∃ o pm cd doc d od dv n, h.get? 67 = some o ∧ o.data = .func { docDef "header_encode" (fnArgs 14) (fnBody 14) (fnScope 14) pm cd doc with defaults := .ref d } ∧ h.CodeRec cd "header_encode" ∧
    h.get? d = some od ∧ od.data = .seq #[dv] n
theorem HeAt.keeps {h h' : Heap} (x : HeAt h) (hk : Keeps h h') : HeAt h' :=
  let ⟨o, pm, cd, doc, d, od, dv, n, h1, h2, h3, h4, h5⟩ := x; ⟨o, pm, cd, doc, d, od, dv, n, hk _ _ h1, h2, h3.keeps hk, hk _ _ h4, h5⟩

/-- what the proofs ask of a heap: the text's own objects -/
structure Hp (mg mb : Str → Option Value) (h : Heap) : Prop where
  g : h.Ns mainGlobals mg
  b : h.Ns builtinsNs mb
  nolimit : h.NoLimit
  own : ∀ x v, ownL.lookup x = some v → mg x = some v
  blt : ∀ x v, bltL.lookup x = some v → mg x = none ∧ mb x = some v
  fn : ∀ p ∈ fnL, FnAt h p.1 p.2.1 p.2.2
  pat : PatAt h
  he : HeAt h
  map : ∃ items, h.IsList 44 items ∧ TextsAre items mapL
  names : ∃ items, h.IsTuple 87 items ∧ TextsAre items namesL
  pieces : ∃ items, h.IsTuple 88 items ∧ TextsAre items piecesL

theorem isList_keeps {h h' : Heap} {a : Addr} {items : Array Value} (x : h.IsList a items) (hk : Keeps h h') : h'.IsList a items := let ⟨o, ho, r⟩ := x; ⟨o, hk _ _ ho, r⟩
theorem isTuple_keeps {h h' : Heap} {a : Addr} {items : Array Value} (x : h.IsTuple a items) (hk : Keeps h h') : h'.IsTuple a items := let ⟨o, ho, r⟩ := x; ⟨o, hk _ _ ho, r⟩
theorem Hp.keeps {mg mb : Str → Option Value} {h h' : Heap} (H : Hp mg mb h) (hk : Keeps h h') : Hp mg mb h' :=
  ⟨H.g.keeps hk, H.b.keeps hk, H.nolimit.keeps hk, H.own, H.blt, fun p hp => (H.fn p hp).keeps hk, H.pat.keeps hk, H.he.keeps hk,
    let ⟨i, a, b⟩ := H.map; ⟨i, isList_keeps a hk, b⟩, let ⟨i, a, b⟩ := H.names; ⟨i, isTuple_keeps a hk, b⟩, let ⟨i, a, b⟩ := H.pieces; ⟨i, isTuple_keeps a hk, b⟩⟩

section
variable {prog : Program} {w : World} {A : Around} {E : Value → Shared → Prop} {s : Shared} {mg mb : Str → Option Value}

/-- a plain def is entered: its frame stands behind the whole heap of before -/
theorem enter {a : Addr} {name : Str} {k : Nat} {args : List Value} {binds : List (Str × Value)} {Q : Value → Shared → Prop} (H : Hp mg mb s.heap) (hf : FnAt s.heap a name k) (hroom : A.depth < recursionLimit)
    (hbind : ∀ pm cd doc, bindArgs (docDef name (fnArgs k) (fnBody k) (fnScope k) pm cd doc) ⟨args, []⟩ = pure binds)
    (hloc : ∀ x ∈ binds, (fnScope k).names.lookup x.1 = some .local)
    (h : ∀ L cd h₁, Fr s.heap L h₁ (fun x => binds.reverse.lookup x) → Hp mg mb h₁ →
      wpAny (model prog w) (A.deeper (envOf name (fnScope k) L a cd)) (execs (fnBody k) (envOf name (fnScope k) L a cd))
        (fun f s' => Q (match f with | .ret v => v | _ => .none) s') (fun _ _ => False) { s with heap := h₁, toks := s.toks + binds.length })
    (hco : (fnScope k).isCoroutine = false := by rfl) (hgen : (fnScope k).isGenerator = false := by rfl) (hk : (fnScope k).kind = .function := by rfl)
    (hcell : ∀ x ∈ (fnScope k).names, x.2 ≠ .cell := by decide) : wpAny (model prog w) A (call (.ref a) args) Q E s := by
  obtain ⟨o, pm, cd, doc, ho, hd, hcd, _⟩ := hf
  exact wpAny_call (call_plain_ret hroom ho hd H.nolimit hcd (hbind pm cd doc) hloc (fun h₁ F => h _ cd h₁ F (H.keeps F.keep)) hco hgen hk hcell)

variable {name : Str} {scope : Scope} {L a : Addr} {cd : Value}
theorem ldOwn {x : Str} {pos : Pos} {v : Value} {Q : Value → Shared → Prop} (H : Hp mg mb s.heap) (hv : ownL.lookup x = some v) (h : Q v s)
    (hk : scope.kind = .function := by rfl) (hx : (envOf name scope L a cd).kindOf x = some .globalImplicit := by rfl)
    (hd : (x == ("__debug__" : Str)) = false := by decide) : wpAny (model prog w) A (eval (.Name x pos) (envOf name scope L a cd)) Q E s :=
  Name_function_global hk hx (loadGlobal_global (env := envOf name scope L a cd) H.g (H.own _ _ hv) h) hd
theorem ldBlt {x : Str} {pos : Pos} {v : Value} {Q : Value → Shared → Prop} (H : Hp mg mb s.heap) (hv : bltL.lookup x = some v) (h : Q v s)
    (hk : scope.kind = .function := by rfl) (hx : (envOf name scope L a cd).kindOf x = some .globalImplicit := by rfl)
    (hd : (x == ("__debug__" : Str)) = false := by decide) : wpAny (model prog w) A (eval (.Name x pos) (envOf name scope L a cd)) Q E s :=
  Name_function_global hk hx (loadGlobal_builtin (env := envOf name scope L a cd) H.g (H.blt _ _ hv).1 H.b (H.blt _ _ hv).2 h) hd

theorem unquote_spec {c : Nat} {t : Tok} {Q : Value → Shared → Prop} (H : Hp mg mb s.heap) (hroom : A.depth < recursionLimit) (hc : c < 256)
    (hQ : ∀ h' tk tk', Keeps s.heap h' → Q (.str ⟨#[c]⟩ tk) { s with heap := h', toks := tk' }) :
    wpAny (model prog w) A (call (.ref 59) [.str ⟨#[61, hexD (c / 16), hexD (c % 16)]⟩ t]) Q E s := by
  refine enter (k := 13) (name := "unquote") (binds := [("s", .str ⟨#[61, hexD (c / 16), hexD (c % 16)]⟩ t)]) H (H.fn (59, "unquote", 13) (by decide)) hroom (fun _ _ _ => by rfl) (locs (by rfl)) (fun L cd h₁ F H₁ => ?_)
  show wpAny _ _ (execs (_ :: []) _) _ _ _
  refine wpAny_execs_cons (wpAny_Return_some ?_)
  refine Call_ (ldBlt H₁ (by rfl) ?_)
  refine callWith_builtin1 (args_cons ?_)
  refine Call_ (ldBlt H₁ (by rfl) ?_)
  refine Pv.callWith_type1 ?_
  refine args_cons ?_
  refine wpAny_Subscript_str_slice (ld F (by rfl) ?_)
  rw [evalPart_some, evalPart_some]
  refine wpAny_Constant_int (wpAny_Constant_int ⟨_, _, some (1, _), some (3, _), rfl, rfl, rfl, ?_⟩)
  refine ⟨(by show 2 ≤ sizeLine; decide), ?_⟩
  refine args_cons (wpAny_Constant_int (args_nil ?_))
  refine call_int16 hc ?_
  refine args_nil ?_
  refine P.chr_of_int ?_ ?_
  · rw [Bool.or_eq_false_iff]
    exact ⟨decide_eq_false (by omega), decide_eq_false (by omega)⟩
  · exact hQ _ _ _ (Keeps.trans F.keep (Keeps.push _))
/-- methods of a string, the name read by the kernel -/
theorem gmSplit {M : Model} {nm x : Str} {t : Tok} {pl : Sem Bool} {Q : Value × List Value → Shared → Prop} (h : Q (.builtin "str.split", [.str x t]) s) (hn : nm = Str.ofString "split" := by kernel_rfl) : wpAny M A (getMethod (.str x t) nm pl) Q E s := by
  subst hn
  with_reducible exact GM.split h
theorem gmJoin {M : Model} {nm x : Str} {t : Tok} {pl : Sem Bool} {Q : Value × List Value → Shared → Prop} (h : Q (.builtin "str.join", [.str x t]) s) (hn : nm = Str.ofString "join" := by kernel_rfl) : wpAny M A (getMethod (.str x t) nm pl) Q E s := by
  subst hn
  with_reducible exact GM.join h
theorem gmReplace {M : Model} {nm x : Str} {t : Tok} {pl : Sem Bool} {Q : Value × List Value → Shared → Prop} (h : Q (.builtin "str.replace", [.str x t]) s) (hn : nm = Str.ofString "replace" := by kernel_rfl) : wpAny M A (getMethod (.str x t) nm pl) Q E s := by
  subst hn
  with_reducible exact GM.replace h
end
end Mine

namespace Mine
open PySem PySem.W PyProof.Rows
open PySem.Builtin

theorem plainAttrs_match : PlainAttrs "re.Match" :=
  ⟨⟨"object.__getattribute__", by rw [typeLookup_type, builtinLookup_eq_fast]; kernel_rfl, by decide +kernel⟩, by rw [typeLookup_type, builtinLookup_eq_fast]; kernel_rfl⟩
theorem slot_match_group : Slot "re.Match" "group" "re.Match.group" :=
  .of (owner := "re.Match") (n := "group") (by rw [typeLookup_type, builtinLookup_eq_fast]; kernel_rfl) (by decide +kernel) (by decide +kernel) (by decide +kernel)
    (by first | exact .inl (by decide +kernel) | exact .inr (by decide +kernel)) (by rw [isSubtype_type]; kernel_rfl)
theorem type_match_group : typeOf (.builtin "re.Match.group") = pure (.type "method_descriptor") := by show builtinType _ = _; rw [builtinType_eq_fast]; kernel_rfl
theorem entry_match_group : entryFor table "re.Match.group" = some Builtin.«re.Match.group» := entryFor_of_tree (by kernel_rfl)
theorem owner_re_match : Manifest.owners.lookup (String.ofList ['h', 'c', 't', 'a', 'M', '.', 'e', 'r'].reverse) = some Manifest.sig_re_Match := by kernel_rfl
theorem args_match_group_2 (a b : Value) : argsOk "re.Match.group" ⟨[a, b], []⟩ := by
  unfold argsOk; rw [signature?_of (id := "re.Match.group") (n := ['p', 'u', 'o', 'r', 'g']) (o := ['h', 'c', 't', 'a', 'M', '.', 'e', 'r']) (by kernel_rfl) owner_re_match]; kernel_rfl

theorem plainAttrs_pattern : PlainAttrs "re.Pattern" :=
  ⟨⟨"object.__getattribute__", by rw [typeLookup_type, builtinLookup_eq_fast]; kernel_rfl, by decide +kernel⟩, by rw [typeLookup_type, builtinLookup_eq_fast]; kernel_rfl⟩
theorem slot_pattern_sub : Slot "re.Pattern" "sub" "re.Pattern.sub" :=
  .of (owner := "re.Pattern") (n := "sub") (by rw [typeLookup_type, builtinLookup_eq_fast]; kernel_rfl) (by decide +kernel) (by decide +kernel) (by decide +kernel)
    (by first | exact .inl (by decide +kernel) | exact .inr (by decide +kernel)) (by rw [isSubtype_type]; kernel_rfl)
theorem type_pattern_sub : typeOf (.builtin "re.Pattern.sub") = pure (.type "method_descriptor") := by show builtinType _ = _; rw [builtinType_eq_fast]; kernel_rfl
theorem entry_pattern_sub : entryFor table "re.Pattern.sub" = some Builtin.«re.Pattern.sub» := entryFor_of_tree (by kernel_rfl)
theorem owner_re_pattern : Manifest.owners.lookup (String.ofList ['n', 'r', 'e', 't', 't', 'a', 'P', '.', 'e', 'r'].reverse) = some Manifest.sig_re_Pattern := by kernel_rfl
theorem args_pattern_sub_3 (a b c : Value) : argsOk "re.Pattern.sub" ⟨[a, b, c], []⟩ := by
  unfold argsOk; rw [signature?_of (id := "re.Pattern.sub") (n := ['b', 'u', 's']) (o := ['n', 'r', 'e', 't', 't', 'a', 'P', '.', 'e', 'r']) (by kernel_rfl) owner_re_pattern]; kernel_rfl
theorem plain_sub_loop : plainId "re.Pattern.sub.loop" = true := by decide +kernel
theorem entry_sub_loop : entryFor table "re.Pattern.sub.loop" = some Builtin.«re.Pattern.sub.loop» := entryFor_of_tree (by kernel_rfl)
theorem fn_call : typeLookup (.type "function") "__call__" = pure (some (.builtin "function.__call__")) := by rw [typeLookup_type, builtinLookup_eq_fast]; kernel_rfl
theorem args_bytes_decode_2 (a b : Value) : argsOk "bytes.decode" ⟨[a, b], []⟩ := by
  unfold argsOk; rw [signature?_of (id := "bytes.decode") (n := ['e', 'd', 'o', 'c', 'e', 'd']) (o := ['s', 'e', 't', 'y', 'b']) (by kernel_rfl) FB.owner_bytes]; kernel_rfl
end Mine

namespace Mine
open PySem PySem.W PyProof.Rows PySem.Calls
open PySem.Builtin PySem.Builtin.Re

/-- a match object as the loop makes it -/
structure MatchAt (h : Heap) (ma : Addr) (x : Str) (b e : Nat) : Prop where
  at_ : ∃ o t p p1 p2 p3 ta ot n, h.get? ma = some o ∧ o.cls = .type "re.Match" ∧ o.dict = none ∧ o.data = .fields #[.str x t, p, p1, p2, p3, .ref ta] ∧
    h.get? ta = some ot ∧ ot.data = .seq #[.int b 0, .int e 0] n
theorem MatchAt.keeps {h h' : Heap} {ma : Addr} {x : Str} {b e : Nat} (M : MatchAt h ma x b e) (hk : Keeps h h') : MatchAt h' ma x b e := by
  obtain ⟨o, t, p, p1, p2, p3, ta, ot, n, h1, h2, h3, h4, h5, h6⟩ := M.at_
  exact ⟨o, t, p, p1, p2, p3, ta, ot, n, hk _ _ h1, h2, h3, h4, hk _ _ h5, h6⟩

section
variable {prog : Program} {w : World} {A : Around} {E : Value → Shared → Prop} {s : Shared} {mg mb : Str → Option Value}

theorem call_group {ma : Addr} {x : Str} {b e : Nat} {u : Tok} {Q : Value → Shared → Prop} (M : MatchAt s.heap ma x b e) (hsz : x.length ≤ sizeLine)
    (hQ : Q (.str ⟨x.cps.extract b e⟩ s.toks) { s with toks := s.toks + 1 }) :
    wpAny (model prog w) A (call (.builtin "re.Match.group") [.ref ma, .int 0 u]) Q E s := by
  obtain ⟨o, t, p, p1, p2, p3, ta, ot, n, h1, h2, h3, h4, h5, h6⟩ := M.at_
  refine wpAny_call ?_
  refine codeAny_call_builtin slot_match_group.plain entry_match_group ?_
  refine slot_match_group.check _ _ _ _ _ _ _ _ ⟨o, h1, h2⟩ (args_match_group_2 _ _) ?_
  show wpAny _ _ (noKeywords "Match.group" ⟨[.ref ma, .int 0 u], []⟩ >>= fun _ => reFound (.ref ma) >>= fun x => _) _ _ s
  refine wpAny_bind (wpAny_of_eq rfl ?_)
  refine wpAny_bind ?_
  unfold reFound
  refine wpAny_bind (wpAny_fieldsOf h1 h4 ?_)
  refine wpAny_bind ?_
  show wpAny _ _ (seqItems? (.ref ta) >>= fun xs => pure ((xs.getD #[]).map reRawOf)) _ _ _
  refine wpAny_bind ?_
  refine wpAny_seqItems h5 h6 ?_
  refine wpAny_pure ?_
  refine wpAny_pure ?_
  have hsp : Array.map reRawOf ((some #[Value.int (b : Int) 0, Value.int (e : Int) 0]).getD #[]) = #[(b : Int), (e : Int)] := by simp [reRawOf]
  rw [hsp]
  dsimp only
  refine wpAny_bind (wpAny_of_eq (a := 0) (by kernel_rfl) ?_)
  refine wpAny_bind ?_
  show wpAny _ _ (if (decide ((b : Int) < 0) || decide ((e : Int) < 0)) = true then pure Value.none else (reTextOf (.str x t) >>= fun r => reSlice r.1 r.2 (b : Int).toNat (e : Int).toNat)) _ _ _
  have hn : (decide ((b : Int) < 0) || decide ((e : Int) < 0)) = false := by
    rw [Bool.or_eq_false_iff]
    exact ⟨decide_eq_false (by omega), decide_eq_false (by omega)⟩
  rw [hn, if_neg Bool.false_ne_true]
  refine wpAny_bind (wpAny_of_eq (a := (x.cps, 0)) rfl ?_)
  show wpAny _ _ (mkStr ⟨x.cps.extract b e⟩) _ _ _
  refine wpAny_mkStr (wpAny_pure hQ) ?_
  refine Nat.le_trans ?_ hsz
  show (x.cps.extract b e).size ≤ x.cps.size
  rw [Array.size_extract]
  omega

theorem unquote_match_spec {ma : Addr} {x : Str} {b e c : Nat} {Q : Value → Shared → Prop} (H : Hp mg mb s.heap) (hroom : A.depth + 1 < recursionLimit) (M : MatchAt s.heap ma x b e) (hsz : x.length ≤ sizeLine) (hc : c < 256)
    (hx : x.cps.extract b e = #[61, hexD (c / 16), hexD (c % 16)])
    (hQ : ∀ h' tk tk', Keeps s.heap h' → Q (.str ⟨#[c]⟩ tk) { s with heap := h', toks := tk' }) :
    wpAny (model prog w) A (call (.ref 79) [.ref ma]) Q E s := by
  refine enter (k := 18) (name := "_unquote_match") (binds := [("match", .ref ma)]) H (H.fn (79, "_unquote_match", 18) (by decide)) (by omega) (fun _ _ _ => by rfl) (locs (by rfl)) (fun L cd h₁ F H₁ => ?_)
  show wpAny _ _ (execs (_ :: _ :: []) _) _ _ _
  refine wpAny_execs_cons (wpAny_Assign_Name ?_)
  refine MethodCall_ (ld F (by rfl) ?_)
  have M₁ := M.keeps F.keep
  obtain ⟨o, t, p, p1, p2, p3, ta, ot, n, h1, h2, h3, h4, h5, h6⟩ := M₁.at_
  refine getMethod_builtin ⟨o, h1, h2⟩ plainAttrs_match slot_match_group type_match_group (fun a e => by cases e; exact ⟨o, h1, h3⟩) ?_
  refine PyProof.Rows.callWith_method1 ?_
  refine args_cons ?_
  refine wpAny_Constant_int ?_
  refine args_nil ?_
  refine call_group M₁ hsz ?_
  refine st F (fun h' F' => ?_)
  refine wpAny_execs_cons (wpAny_Return_some ?_)
  have H' := H.keeps F'.keep
  refine Call_ (ldOwn H' (by rfl) ?_)
  obtain ⟨of, pm, cdf, doc, ho, hd, hcd, _⟩ := H'.fn (59, "unquote", 13) (by decide)
  refine callWith_def hd ?_
  refine args_cons ?_
  refine ld F' (by rfl) ?_
  refine args_nil ⟨ho, ?_⟩
  rw [hx]
  refine unquote_spec H' hroom hc (fun h'' tk tk' k => hQ _ _ _ (Keeps.trans F'.keep k))
end
end Mine

namespace Mine
open PySem PySem.W PyProof.Rows PySem.Calls

/-- written as three signs by the header map -/
def esc (c : Nat) : Bool := !plainC c && c != 32
/-- one octet behind replace('_', ' ') -/
def mid (c : Nat) : List Nat := if esc c = true then [61, hexD (c / 16), hexD (c % 16)] else [c]

theorem esc_61 : esc 61 = true := by decide +kernel
theorem not_esc {c : Nat} (h : esc c = false) : c ≠ 61 := fun e => by rw [e, esc_61] at h; cases h
theorem mid_not {c : Nat} (h : esc c = false) : mid c = [c] := by unfold mid; rw [h]; rfl
theorem mid_esc {c : Nat} (h : esc c = true) : mid c = [61, hexD (c / 16), hexD (c % 16)] := by unfold mid; rw [if_pos h]
theorem mid_plains : ∀ {ps : List Nat}, (∀ x ∈ ps, esc x = false) → ps.flatMap mid = ps
  | [], _ => rfl
  | c :: r, h => by
    rw [List.flatMap_cons, mid_not (h c (.head _)), mid_plains fun x hx => h x (.tail _ hx)]
    rfl
theorem hexD_hex : ∀ d : Fin 16, isHex (hexD d.val) = true := by decide +kernel
theorem cut_esc : ∀ rest : List Nat, (∀ c ∈ rest, esc c = false) ∨ ∃ ps c rs, rest = ps ++ c :: rs ∧ (∀ x ∈ ps, esc x = false) ∧ esc c = true
  | [] => .inl fun _ h => nomatch h
  | c :: r => by
    cases h : esc c with
    | true => exact .inr ⟨[], c, r, rfl, (fun _ h => nomatch h), h⟩
    | false =>
      rcases cut_esc r with q | ⟨ps, d, rs, e, q, hd⟩
      · exact .inl fun x hx => by
          cases hx with
          | head => exact h
          | tail _ hx => exact q x hx
      · exact .inr ⟨c :: ps, d, rs, by rw [e]; rfl, (fun x hx => by
          cases hx with
          | head => exact h
          | tail _ hx => exact q x hx), hd⟩

theorem getD_mid {T : Array Nat} {pre l post : List Nat} (e : T.toList = pre ++ (l ++ post)) (i : Nat) (h : i < l.length) : T.getD (pre.length + i) 0 = l.getD i 0 := by
  rw [Array.getD_eq_getD_getElem?, ← Array.getElem?_toList, e, List.getElem?_append_right (by omega), List.getElem?_append_left (by omega), List.getD_eq_getElem?_getD]
  rw [show pre.length + i - pre.length = i by omega]
theorem extract_mid {T : Array Nat} {pre l post : List Nat} (e : T.toList = pre ++ (l ++ post)) {a b : Nat} (ha : a = pre.length) (hb : b = pre.length + l.length) : T.extract a b = l.toArray := by
  subst ha hb
  apply Array.toList_inj.mp
  rw [Array.toList_extract, e]
  simp [List.extract]
open PySem.Builtin.Str in
theorem gluedFold (sep : Str) : ∀ (ys : List Str) (acc : Array Nat), (ys.foldl (fun acc p => acc ++ sep.cps ++ p.cps) acc).toList = acc.toList ++ ys.flatMap (fun p => sep.cps.toList ++ p.cps.toList)
  | [], acc => by simp
  | y :: r, acc => by
    rw [List.foldl_cons, gluedFold sep r]
    simp
open PySem.Builtin.Str in
theorem join_cons (sep y : Str) (ys : List Str) : (Txt.join sep (y :: ys)).cps.toList = y.cps.toList ++ ys.flatMap (fun p => sep.cps.toList ++ p.cps.toList) := by
  show (ys.foldl (fun acc p => acc ++ sep.cps ++ p.cps) y.cps).toList = _
  exact gluedFold sep ys y.cps
theorem join_empty (ys : List Str) : (Txt.join ⟨#[]⟩ ys).cps.toList = (ys.map (·.cps.toList)).flatten := by
  cases ys with
  | nil => rfl
  | cons y r =>
    rw [join_cons]
    simp [List.flatMap, List.map_map]
theorem size_of {T : Array Nat} {l : List Nat} (e : T.toList = l) : T.size = l.length := by rw [← e, Array.length_toList]
end Mine

namespace Mine
open PySem PySem.W PyProof.Rows PySem.Calls
open PySem.Builtin PySem.Builtin.Re

theorem patCode : (patTuple.map reRawOf).map (·.toNat) = reCode := by decide +kernel

section
variable {prog : Program} {w : World} {A : Around} {E : Value → Shared → Prop} {s : Shared} {mg mb : Str → Option Value}

theorem whole_target {T : Str} {t : Tok} {Q : ReTarget → Shared → Prop} (P : PatAt s.heap)
    (h : Q { pattern := .ref 36, string := .str T t, code := reCode, text := T.cps, kind := 0, groups := 0, pos := 0, lim := T.cps.size } s) :
    wpAny (model prog w) A (reWholeTarget (.ref 36) (.str T t)) Q E s := by
  obtain ⟨o, ot, v1, v2, v3, v4, n, h1, h2, h3, h4, h5, h6⟩ := P.at_
  unfold reWholeTarget
  refine wpAny_bind (wpAny_fieldsOf h1 h4 ?_)
  refine wpAny_bind (wpAny_of_eq (a := (T.cps, 0)) rfl ?_)
  show wpAny (model prog w) A (reNoCollectionInside (.str T t) 0 >>= fun _ => reRawItems (.ref 35) >>= fun c =>
    (pure ({ pattern := .ref 36, string := .str T t, code := c.map (·.toNat), text := T.cps, kind := 0, groups := 0, pos := 0, lim := T.cps.size } : ReTarget) : Sem ReTarget)) Q E s
  refine wpAny_bind (wpAny_of_eq (a := ()) rfl ?_)
  refine wpAny_bind ?_
  show wpAny _ _ (seqItems? (.ref 35) >>= fun xs => pure ((xs.getD #[]).map reRawOf)) _ _ _
  refine wpAny_bind ?_
  refine wpAny_seqItems h5 h6 ?_
  refine wpAny_pure ?_
  refine wpAny_pure ?_
  show Q { pattern := .ref 36, string := .str T t, code := ((patTuple).map reRawOf).map (·.toNat), text := T.cps, kind := 0, groups := 0, pos := 0, lim := T.cps.size } s
  rw [patCode]
  exact h

theorem new_match {T : Str} {t : Tok} {m : SM} {lim : Nat} {Q : Value → Shared → Prop} (hm : m.marks = #[]) (hl : m.lastmark = -1)
    (h : ∀ h' ma, Keeps s.heap h' → MatchAt h' ma T m.start m.handed → Q (.ref ma) { s with heap := h' }) :
    wpAny (model prog w) A (reNewMatch (.ref 36) (.str T t) 0 0 lim m) Q E s := by
  unfold reNewMatch
  refine bm_if_false rfl ?_
  unfold newTuple newFields
  refine wpAny_bind (wpAny_newObj_type ?_ (by show 2 ≤ sizeLine; decide))
  refine wpAny_newObj_type (h _ _ (Keeps.trans (Keeps.push _) (Keeps.push _)) ?_) (by show 6 ≤ sizeLine + 2; decide)
  exact ⟨_, t, .ref 36, _, _, _, s.heap.objs.size, _, _, Heap.get?_push_size _ rfl, rfl, rfl, rfl, Heap.get?_push_of_some _ (Heap.get?_push_size _ rfl), rfl⟩

/-- all but one object stand as they stood -/
abbrev KeepsBut (P : Addr) (h h' : Heap) : Prop := ∀ b o, b ≠ P → h.get? b = some o → h'.get? b = some o

theorem push_piece {P : Addr} {items : Array Value} {v : Value} {Q : Unit → Shared → Prop} (hl : s.heap.IsList P items) (hsz : items.size ≤ 2 ^ 23)
    (h : ∀ h', h'.IsList P (items.push v) → KeepsBut P s.heap h' → Q () { s with heap := h' }) :
    wpAny (model prog w) A (updateSeq P (·.push v)) Q E s := by
  obtain ⟨o, ho, hc, n, hd⟩ := id hl
  obtain ⟨n', hd'⟩ := Obj.data_mapSeq hd (·.push v)
  refine wpAny_updateSeq ho hd (h _ ⟨_, Heap.get?_update_self _ ho (Obj.isFreed_of_seq hd'), (Obj.cls_mapSeq ..).trans hc, n', hd'⟩ fun b o hb e => (Heap.get?_update_ne _ _ _ _ hb).trans e) (by unfold sizeLine; omega) ?_
  show (items.push v).size ≤ sizeLine + 1
  rw [Array.size_push]; unfold sizeLine; omega

def flatTexts (l : List (Str × Tok)) : List Nat := (l.map (·.1.cps.toList)).flatten

theorem strValues_push (l : List (Str × Tok)) (x : Str) (t : Tok) : (strValues l).toArray.push (.str x t) = (strValues (l ++ [(x, t)])).toArray := by
  simp [strValues]
theorem flatTexts_push (l : List (Str × Tok)) (x : Str) (t : Tok) : flatTexts (l ++ [(x, t)]) = flatTexts l ++ x.cps.toList := by
  simp [flatTexts]
theorem strValues_len (l : List (Str × Tok)) : (strValues l).toArray.size = l.length := by
  simp [strValues]
theorem KeepsBut.keeps {P : Addr} {base h h' : Heap} (k : KeepsBut P h h') (hK : Keeps base h) (hP : base.get? P = none) : Keeps base h' := fun b o e =>
  k b o (fun q => by rw [q, hP] at e; cases e) (hK b o e)

/-- the text is put together at the end -/
theorem sub_end {T : Str} {P : Addr} {l : List (Str × Tok)} {n : Int} {R : PySem.Fin → Shared → Prop} (hL : s.heap.IsList P (strValues l).toArray) (hb : (flatTexts l).length + l.length ≤ 2 ^ 23)
    (hQ : ∀ tk tk', R (.done (.ret (.str ⟨(flatTexts l).toArray⟩ tk))) { s with toks := tk' }) :
    wpAny (model prog w) A (do
      let joiner ← reSlice T.cps 0 0 0
      let xs ← seqItems? (.ref P)
      let text ← if (xs.getD #[]).isEmpty = true then pure joiner else call (.builtin (if (0 : Nat) == 0 then "str.join" else "bytes.join")) [joiner, .ref P]
      if false = true then ret (← holding [text] do newTuple [text, ← mkInt n]) else ret text) R E s := by
  have e0 : T.cps.extract 0 0 = #[] := by simp
  refine wpAny_bind ?_
  show wpAny _ _ (mkStr ⟨T.cps.extract 0 0⟩) _ _ _
  rw [e0]
  refine wpAny_mkStr ?_ (by show 0 ≤ sizeLine; decide)
  obtain ⟨o, ho, hc, ep, hd⟩ := id hL
  refine wpAny_bind (wpAny_seqItems ho hd ?_)
  cases l with
  | nil =>
    refine bm_if_true rfl ?_
    refine wpAny_bind ?_
    refine wpAny_pure ?_
    exact bm_if_false rfl (wpAny_pure (hQ _ _))
  | cons p r =>
    refine bm_if_false rfl (wpAny_bind ?_)
    refine SC.join hL rfl ?_ (fun t' k => ?_)
    · refine joinOk_of ?_
      have e1 : (((p :: r).map (·.1)).map (·.length)).sum = (flatTexts (p :: r)).length := by
        unfold flatTexts
        rw [List.length_flatten, List.map_map, List.map_map]
        congr 1
      have e2 : (⟨#[]⟩ : Str).length = 0 := rfl
      rw [e1, e2]
      omega
    · have ej : Txt.join ⟨#[]⟩ ((p :: r).map (·.1)) = ⟨(flatTexts (p :: r)).toArray⟩ := by
        have := join_empty ((p :: r).map (·.1))
        rw [List.map_map] at this
        apply Str.ext'
        apply Array.toList_inj.mp
        rw [this]
        rfl
      rw [ej]
      exact bm_if_false rfl (wpAny_pure (hQ _ _))

theorem sub_loop {T : Str} {t : Tok} {P : Addr} {base : Heap} {Q : Value → Shared → Prop} (H : Hp mg mb base) (hroom : A.depth + 1 < recursionLimit) (hT : T.length ≤ 2 ^ 20) (hPb : base.get? P = none) :
    ∀ (k : Nat) (rest pre : List Nat) (s : Shared) (l : List (Str × Tok)) (n : Int), rest.length < k → (∀ c ∈ rest, c < 256) → T.cps.toList = pre ++ rest.flatMap mid → l.length ≤ pre.length → (flatTexts l).length ≤ pre.length →
      s.heap.IsList P (strValues l).toArray → Keeps base s.heap →
      (∀ h' tk tk', Keeps base h' → Q (.str ⟨(flatTexts l ++ rest).toArray⟩ tk) { s with heap := h', toks := tk' }) →
      codeAny (model prog w) A (.builtin "re.Pattern.sub.loop" ⟨[.ref 36, .str T t, .ref 79, .int 1 0, .int 0 0, .int n 0, .int pre.length 0, .int pre.length 0, .bool false, .ref P, .bool false], []⟩) (wants Q E) s := by
  intro k
  induction k with
  | zero => intro rest pre s l n hk; exact absurd hk (Nat.not_lt_zero _)
  | succ k ih =>
    intro rest pre s l n hk hr hTe hl hfl hL hK hQ
    have hsz : T.cps.size = pre.length + (rest.flatMap mid).length := by rw [size_of hTe, List.length_append]
    have hT' : T.cps.size ≤ 2 ^ 20 := hT
    refine codeAny_builtin entry_sub_loop ?_
    rw [Around.under_plainId plain_sub_loop _]
    show wpAny _ _ (reWholeTarget (.ref 36) (.str T t) >>= fun tg => _) _ _ s
    refine wpAny_bind (whole_target (H.pat.keeps hK) ?_)
    rcases cut_esc rest with hn | ⟨ps, c, rs, e, hps, hc⟩
    · have hm : rest.flatMap mid = rest := mid_plains hn
      rw [hm] at hTe hsz
      show wpAny _ _ ((if ((0 : Int) != 0 && decide (n ≥ 0)) = true then pure none else reNextFound _ pre.length false) >>= fun r => _) _ _ s
      refine wpAny_bind (bm_if_false rfl ?_)
      refine next_none rfl rfl (by show pre.length ≤ T.cps.size; omega) (by show T.cps.size ≤ _; omega) (fun i h1 h2 => ?_) ?_
      · have h2' : i < T.cps.size := h2
        have e1 := getD_mid (T := T.cps) (pre := pre) (l := rest) (post := []) (by rw [List.append_nil]; exact hTe) (i - pre.length) (by omega)
        rw [show pre.length + (i - pre.length) = i by omega] at e1
        show T.cps.getD i 0 ≠ 61
        rw [e1, List.getD_eq_getElem?_getD, List.getElem?_eq_getElem (by omega)]
        exact not_esc (hn _ (List.getElem_mem _))
      · dsimp only
        refine wpAny_ite ?_
        split
        · refine wpAny_bind ?_
          have ex : T.cps.extract pre.length T.cps.size = rest.toArray := extract_mid (post := []) (by rw [List.append_nil]; exact hTe) rfl hsz
          show wpAny _ _ (mkStr ⟨T.cps.extract pre.length T.cps.size⟩) _ _ _
          rw [ex]
          refine wpAny_mkStr ?_ (by show rest.toArray.size ≤ sizeLine; rw [List.size_toArray]; unfold sizeLine; omega)
          refine wpAny_bind (push_piece hL (by rw [strValues_len]; omega) (fun h' hL' hkb => ?_))
          rw [strValues_push] at hL'
          refine sub_end (l := l ++ [(⟨rest.toArray⟩, s.toks)]) hL' ?_ (fun tk tk' => ?_)
          · rw [flatTexts_push, List.length_append, List.length_append]
            show _ + rest.length + (_ + 1) ≤ _
            omega
          · rw [flatTexts_push]
            exact hQ h' tk tk' (hkb.keeps hK hPb)
        · rename_i h
          have h' : ¬ (pre.length < T.cps.size) := h
          have e0 : rest = [] := List.length_eq_zero_iff.mp (by omega)
          subst e0
          refine sub_end (l := l) hL (by omega) (fun tk tk' => ?_)
          have := hQ s.heap tk tk' hK
          rw [List.append_nil] at this
          exact this
    · have hc256 : c < 256 := hr c (by rw [e]; simp)
      have hm : rest.flatMap mid = ps ++ ([61, hexD (c / 16), hexD (c % 16)] ++ rs.flatMap mid) := by
        rw [e, List.flatMap_append, mid_plains hps, List.flatMap_cons, mid_esc hc]
      rw [hm] at hTe hsz
      have hlen : rest.length = ps.length + rs.length + 1 := by rw [e]; simp; omega
      have hsz' : T.cps.size = pre.length + (ps.length + (3 + (rs.flatMap mid).length)) := by
        rw [hsz, List.length_append, List.length_append]; rfl
      have hTe2 : T.cps.toList = (pre ++ ps) ++ ([61, hexD (c / 16), hexD (c % 16)] ++ rs.flatMap mid) := by rw [hTe, List.append_assoc]
      have hTe3 : T.cps.toList = (pre ++ ps ++ [61, hexD (c / 16), hexD (c % 16)]) ++ rs.flatMap mid := by rw [hTe2, List.append_assoc, List.append_assoc, List.append_assoc]
      have g3 : ∀ i, i < 3 → T.cps.getD (pre.length + ps.length + i) 0 = [61, hexD (c / 16), hexD (c % 16)].getD i 0 := fun i hi => by
        have := getD_mid hTe2 i hi
        rw [List.length_append] at this
        exact this
      show wpAny _ _ ((if ((0 : Int) != 0 && decide (n ≥ 0)) = true then pure none else reNextFound _ pre.length false) >>= fun r => _) _ _ s
      refine wpAny_bind (bm_if_false rfl ?_)
      refine next_hit (p := pre.length + ps.length) rfl rfl (by omega) (by show _ ≤ T.cps.size; omega) (by show T.cps.size ≤ _; omega) (fun i h1 h2 => ?_) (g3 0 (by omega)) ?_ ?_ (fun m a1 a2 a3 a4 a5 => ?_)
      · have e1 := getD_mid hTe (i - pre.length) (by omega)
        rw [show pre.length + (i - pre.length) = i by omega] at e1
        show T.cps.getD i 0 ≠ 61
        rw [e1, List.getD_eq_getElem?_getD, List.getElem?_eq_getElem (by omega)]
        exact not_esc (hps _ (List.getElem_mem _))
      · have := g3 1 (by omega)
        show isHex (T.cps.getD (pre.length + ps.length + 1) 0) = true
        rw [this]
        exact hexD_hex ⟨c / 16, by omega⟩
      · have := g3 2 (by omega)
        show isHex (T.cps.getD (pre.length + ps.length + 2) 0) = true
        rw [this]
        exact hexD_hex ⟨c % 16, by omega⟩
      · have hm1 : m.handed = (pre ++ ps ++ [61, hexD (c / 16), hexD (c % 16)]).length := by
          rw [a2, List.length_append, List.length_append]; rfl
        have tail : ∀ (h₁ : Heap) (tk₁ : Nat) (l₁ : List (Str × Tok)), h₁.IsList P (strValues l₁).toArray → Keeps base h₁ → flatTexts l₁ = flatTexts l ++ ps → l₁.length ≤ l.length + 1 →
            wpAny (model prog w) A.in1 (do
              let found ← reNewMatch (.ref 36) (.str T t) 0 0 T.cps.size m
              let item ← holding [found] (if ((1 : Int) == 1) = true then call (.ref 79) [found] else do reExpand (.ref 79) (← reFound found))
              if (item != Value.none) = true then do
                updateSeq P fun x => x.push item
                again (.builtin "re.Pattern.sub.loop" ⟨[.ref 36, .str T t, .ref 79, rawInt 1, rawInt 0, rawInt (n + 1), rawInt m.handed, rawInt m.handed, .bool (m.handed == m.start), .ref P, .bool false], []⟩)
              else again (.builtin "re.Pattern.sub.loop" ⟨[.ref 36, .str T t, .ref 79, rawInt 1, rawInt 0, rawInt (n + 1), rawInt m.handed, rawInt m.handed, .bool (m.handed == m.start), .ref P, .bool false], []⟩))
              (fun fin s' => match fin with | .done f => wants Q E (.ok f) s' | .again c' => c'.quiet = true ∧ codeAny (model prog w) A c' (wants Q E) s') (fun e s' => wants Q E (.error e) s')
              { s with heap := h₁, toks := tk₁ } := fun h₁ tk₁ l₁ hL₁ hK₁ hf₁ hl₁ => by
          refine wpAny_bind (new_match a5 a3 (fun h₂ ma hk₂ hM => ?_))
          refine wpAny_bind ?_
          refine wpAny_holding ?_
          refine bm_if_true rfl ?_
          have hL₂ : h₂.IsList P (strValues l₁).toArray := by
            obtain ⟨o, ho, r⟩ := hL₁
            exact ⟨o, hk₂ _ _ ho, r⟩
          have hx : T.cps.extract m.start m.handed = #[61, hexD (c / 16), hexD (c % 16)] :=
            extract_mid hTe2 (by rw [a1, List.length_append]) (by rw [a2, List.length_append]; rfl)
          refine unquote_match_spec (H.keeps (Keeps.trans hK₁ hk₂)) hroom hM (by unfold sizeLine; omega) hc256 hx (fun h₃ tk tk' hk₃ => ?_)
          have hL₃ : h₃.IsList P (strValues l₁).toArray := by
            obtain ⟨o, ho, r⟩ := hL₂
            exact ⟨o, hk₃ _ _ ho, r⟩
          refine bm_if_true rfl ?_
          refine wpAny_bind (push_piece hL₃ (by rw [strValues_len]; omega) (fun h₄ hL₄ hkb => ?_))
          rw [strValues_push] at hL₄
          refine wpAny_pure ⟨plainId_quiet plain_sub_loop _, ?_⟩
          have hne : (m.handed == m.start) = false := by rw [a1, a2]; simp
          rw [hne, hm1]
          refine ih rs (pre ++ ps ++ [61, hexD (c / 16), hexD (c % 16)]) _ (l₁ ++ [(⟨#[c]⟩, tk)]) (n + 1) (by omega) (fun x hx => hr x (by rw [e]; simp [hx])) hTe3 ?_ ?_ hL₄ (hkb.keeps (Keeps.trans hK₁ (Keeps.trans hk₂ hk₃)) hPb) (fun h' k1 k2 hk' => ?_)
          · rw [List.length_append, List.length_append, List.length_append]
            show l₁.length + 1 ≤ _ + 3
            omega
          · rw [flatTexts_push, hf₁, List.length_append, List.length_append, List.length_append, List.length_append]
            show _ + 1 ≤ _ + 3
            omega
          · have := hQ h' k1 k2 hk'
            rw [e] at this
            rw [flatTexts_push, hf₁]
            simpa using this
        dsimp only
        refine wpAny_ite ?_
        split
        · refine wpAny_bind ?_
          have ex : T.cps.extract pre.length m.start = ps.toArray := extract_mid hTe rfl a1
          show wpAny _ _ (mkStr ⟨T.cps.extract pre.length m.start⟩) _ _ _
          rw [ex]
          refine wpAny_mkStr ?_ (by show ps.toArray.size ≤ sizeLine; rw [List.size_toArray]; unfold sizeLine; omega)
          refine wpAny_bind (push_piece hL (by rw [strValues_len]; omega) (fun h' hL' hkb => ?_))
          rw [strValues_push] at hL'
          refine bm_if_false rfl ?_
          exact tail h' _ _ hL' (hkb.keeps hK hPb) (by rw [flatTexts_push]) (by rw [List.length_append]; exact Nat.le_refl _)
        · rename_i h
          have h' : ¬ (pre.length < m.start) := h
          have e0 : ps = [] := List.length_eq_zero_iff.mp (by omega)
          refine bm_if_false rfl ?_
          exact tail s.heap _ l hL hK (by rw [e0, List.append_nil]) (by omega)

theorem sub_named (a b : Value) : reNamed "re.Pattern.sub" "sub" ["repl", "string", "count"] 2 [a, b] [] = pure [some a, some b, none] := by kernel_rfl
theorem not_held (T : Str) (t : Tok) : reNotHeld "re.Pattern.sub" (.str T t) = pure () := by
  have e : isInstance (.str T t) (.type "bytearray") = pure false := by
    show isSubtype (.type "str") (.type "bytearray") = pure false
    rw [isSubtype_type]; kernel_rfl
  unfold reNotHeld
  rw [e]
  rfl

theorem call_sub {cs : List Nat} {T : Str} {t : Tok} {Q : Value → Shared → Prop} (H : Hp mg mb s.heap) (hroom : A.depth + 1 < recursionLimit) (hT : T.cps.toList = cs.flatMap mid) (hz : T.length ≤ 2 ^ 20) (hcs : ∀ c ∈ cs, c < 256)
    (hQ : ∀ h' tk tk', Keeps s.heap h' → Q (.str ⟨cs.toArray⟩ tk) { s with heap := h', toks := tk' }) :
    wpAny (model prog w) A (call (.builtin "re.Pattern.sub") [.ref 36, .ref 79, .str T t]) Q E s := by
  have hTy : s.TypeIs (.ref 36) "re.Pattern" := by
    obtain ⟨o, ot, v1, v2, v3, v4, n, h1, h2, h3, h4, h5, h6⟩ := H.pat.at_
    exact ⟨o, h1, h2⟩
  refine wpAny_call ?_
  refine codeAny_call_builtin slot_pattern_sub.plain entry_pattern_sub ?_
  refine slot_pattern_sub.check _ _ _ _ _ _ _ _ hTy (args_pattern_sub_3 _ _ _) ?_
  show wpAny _ _ (reNamed "re.Pattern.sub" "sub" ["repl", "string", "count"] 2 [.ref 79, .str T t] [] >>= fun r => _) _ _ s
  refine wpAny_bind (wpAny_of_eq (sub_named _ _) ?_)
  dsimp only
  refine wpAny_bind (wpAny_pure ?_)
  obtain ⟨of, pm, cdf, doc, hof, hod, hcd, hoc⟩ := H.fn (79, "_unquote_match", 18) (by decide)
  refine wpAny_bind (wpAny_specialOf (T := "function") ⟨of, hof, hoc⟩ fn_call ?_)
  refine bm_if_true rfl ?_
  refine wpAny_bind ?_
  refine wpAny_pure ?_
  refine bm_if_true rfl ?_
  refine wpAny_bind ?_
  refine wpAny_pure ?_
  refine wpAny_bind ?_
  refine wpAny_holding ?_
  refine whole_target H.pat ?_
  refine bm_if_true rfl ?_
  refine wpAny_bind ?_
  refine wpAny_of_eq (not_held _ _) ?_
  refine wpAny_bind ?_
  unfold newList
  refine wpAny_newObj_type ?_ (by show 0 ≤ sizeLine; decide)
  refine wpAny_pure ⟨plainId_quiet plain_sub_loop _, ?_⟩
  have hnone : s.heap.get? s.heap.objs.size = none := by
    cases q : s.heap.get? s.heap.objs.size with
    | none => rfl
    | some o => exact absurd (Heap.lt_size q) (Nat.lt_irrefl _)
  exact sub_loop (T := T) (t := t) (base := s.heap) H hroom hz hnone (cs.length + 1) cs [] _ [] 0 (Nat.lt_succ_self _) hcs hT (Nat.le_refl _) (Nat.le_refl _)
    ⟨_, Heap.get?_push_size _ rfl, rfl, _, rfl⟩ (Keeps.push _) (fun h' tk tk' hk => hQ h' tk tk' hk)
end
end Mine

namespace Mine
open PySem PySem.W PyProof.Rows PySem.Calls

def swapC (c d k : Nat) : Nat := if k = c then d else k
theorem map_free (c d : Nat) : ∀ l : List Nat, c ∉ l → l.map (swapC c d) = l
  | [], _ => rfl
  | k :: r, h => by
    rw [List.map_cons, map_free c d r fun m => h (.tail _ m)]
    unfold swapC
    rw [if_neg fun e : k = c => h (by rw [e]; exact .head _)]
open PySem.Builtin.Str in
theorem map_join (c d : Nat) : ∀ parts : List Str, (∀ p ∈ parts, c ∉ p.cps.toList) → (Str.join ⟨#[c]⟩ parts).cps.toList.map (swapC c d) = (Str.join ⟨#[d]⟩ parts).cps.toList
  | [], _ => rfl
  | [p], h => map_free c d _ (h p (.head _))
  | p :: q :: r, h => by
    have ih := map_join c d (q :: r) fun a ha => h a (.tail _ ha)
    show (p ++ ⟨#[c]⟩ ++ Str.join ⟨#[c]⟩ (q :: r)).cps.toList.map (swapC c d) = (p ++ ⟨#[d]⟩ ++ Str.join ⟨#[d]⟩ (q :: r)).cps.toList
    simp only [Str.cps_append, Array.toList_append, List.map_append]
    rw [ih, map_free c d _ (h p (.head _))]
    simp [swapC]
theorem replace_maps (x : Str) (c d : Nat) : (Txt.replace x ⟨#[c]⟩ ⟨#[d]⟩).cps.toList = x.cps.toList.map (swapC c d) := by
  rw [StrLaws.replace_one, ← map_join c d _ (StrLaws.split_free x c), StrLaws.join_split]

theorem enc_mid : ∀ c : Fin 256, (enc1 c.val).map (swapC 95 32) = mid c.val := by decide +kernel
theorem enc_mids : ∀ {cs : List Nat}, (∀ c ∈ cs, c < 256) → (cs.flatMap enc1).map (swapC 95 32) = cs.flatMap mid
  | [], _ => rfl
  | c :: r, h => by
    rw [List.flatMap_cons, List.flatMap_cons, List.map_append, enc_mids fun x hx => h x (.tail _ hx), enc_mid ⟨c, h c (.head _)⟩]

section
variable {prog : Program} {w : World} {A : Around} {E : Value → Shared → Prop} {s : Shared} {mg mb : Str → Option Value}

theorem header_decode_spec {cs : List Nat} {T : Str} {t : Tok} {Q : Value → Shared → Prop} (H : Hp mg mb s.heap) (hroom : A.depth + 2 < recursionLimit) (hT : T.cps.toList = cs.flatMap enc1) (hz : T.length ≤ 2 ^ 20) (hcs : ∀ c ∈ cs, c < 256)
    (hQ : ∀ h' tk tk', Keeps s.heap h' → Q (.str ⟨cs.toArray⟩ tk) { s with heap := h', toks := tk' }) :
    wpAny (model prog w) A (call (.ref 86) [.str T t]) Q E s := by
  refine enter (k := 19) (name := "header_decode") (binds := [("s", .str T t)]) H (H.fn (86, "header_decode", 19) (by decide)) (by omega) (fun _ _ _ => by rfl) (locs (by rfl)) (fun L cd h₁ F H₁ => ?_)
  show wpAny _ _ (execs (_ :: _ :: []) _) _ _ _
  refine wpAny_execs_cons (wpAny_Assign_Name ?_)
  refine MethodCall_ (ld F (by rfl) ?_)
  with_reducible refine gmReplace ?_
  refine PyProof.Rows.callWith_method1 ?_
  refine args_cons ?_
  refine Constant_str ?_
  refine args_cons ?_
  refine Constant_str ?_
  refine args_nil ?_
  have e1 : Str.ofString "_" = ⟨#[95]⟩ := by decide +kernel
  have e2 : Str.ofString " " = ⟨#[32]⟩ := by decide +kernel
  rw [e1, e2]
  refine SC.replaceW (by simp) (by simp) (by simp) (by decide +kernel) (by rw [show (1048576 : Nat) = 2 ^ 20 from rfl]; exact hz) (by decide) (fun t' k => ?_)
  have hm : (Txt.replace T ⟨#[95]⟩ ⟨#[32]⟩).cps.toList = cs.flatMap mid := by rw [replace_maps, hT, enc_mids hcs]
  have hl : (Txt.replace T ⟨#[95]⟩ ⟨#[32]⟩).length ≤ 2 ^ 20 := by
    have : (Txt.replace T ⟨#[95]⟩ ⟨#[32]⟩).length = T.length := by
      show (Txt.replace T ⟨#[95]⟩ ⟨#[32]⟩).cps.size = T.cps.size
      rw [← Array.length_toList, replace_maps, List.length_map, Array.length_toList]
    omega
  refine st F (fun h' F' => ?_)
  refine wpAny_execs_cons (wpAny_Return_some ?_)
  have H' := H.keeps F'.keep
  refine MethodCall_ (ldOwn H' (by rfl) ?_)
  obtain ⟨o, ot, v1, v2, v3, v4, n, h1, h2, h3, h4, h5, h6⟩ := H'.pat.at_
  refine getMethod_builtin ⟨o, h1, h2⟩ plainAttrs_pattern slot_pattern_sub type_pattern_sub (fun a e => by cases e; exact ⟨o, h1, h3⟩) ?_
  refine PyProof.Rows.callWith_method1 ?_
  refine args_cons ?_
  refine ldOwn H' (by rfl) ?_
  refine args_cons ?_
  refine ld F' (by rfl) ?_
  refine args_nil ?_
  exact call_sub H' (by show A.depth + 1 + 1 < _; omega) hm hl hcs (fun h'' tk tk' k => hQ _ _ _ (Keeps.trans F'.keep k))
end
end Mine

namespace Mine
open PySem PySem.W PyProof.Rows PySem.Calls
open PySem.Builtin

theorem road_latin {id : String} {b : Array UInt8} : _codecs.decodeRoad id b (PySem.Str.ofString "latin1") none [] = (_codecs.runDecoder id _codecs.latin1Decoder none true b 0 [] >>= fun r => mkStr ⟨r.1⟩) := by kernel_rfl
theorem entry_latin (c : UInt8) (cs : List UInt8) (t u : Tok) : «bytes.decode» ⟨[.bytes (c :: cs).toArray t, .str (PySem.Str.ofString "latin1") u], []⟩ = (mkStr (PySem.Str.ofString "utf-8") >>= fun _ => mkStr (PySem.Str.ofString "latin1") >>= fun e => mkStr (PySem.Str.ofString "bytes.decode") >>= fun d =>
    call (.builtin "_codecs.decode.text") [.bytes (c :: cs).toArray t, e, .none, d] >>= fun v => ret v) := by kernel_rfl

theorem run_latin {M : Model} {A : Around} {E : Value → Shared → Prop} {s : Shared} {id : String} {b : Array UInt8} {Q : Array Nat × Nat → Shared → Prop} (hz : b.size ≤ 2 ^ 20) (h : Q (b.map (·.toNat), b.size) s) :
    wpAny M A (_codecs.runDecoder id _codecs.latin1Decoder none true b 0 []) Q E s := by
  unfold _codecs.runDecoder
  dsimp only
  rw [KPc.range_list]
  refine wpAny_bind (wpAny_forIn_list _ (fun rest (st : Nat × Array Nat × _codecs.Faults) s' => s' = s ∧ st.1 + rest.length = b.size ∧ st.2.1.toList = (b.toList.map (·.toNat)).take st.1) _
    (fun x rest st s' hI => ?_) (fun st s' hI => ?_) _ _ ⟨rfl, by simp, by simp⟩)
  · obtain ⟨rfl, hl, ho⟩ := hI
    obtain ⟨p, out, f⟩ := st
    dsimp only at hl ho ⊢
    have hos : out.size = p := by
      rw [← Array.length_toList, ho, List.length_take, List.length_map, Array.length_toList]
      simp only [List.length_cons] at hl
      omega
    simp only [List.length_cons] at hl
    rw [if_neg (by unfold sizeLine; omega), if_neg (by omega)]
    refine wpAny_pure ⟨rfl, ?_, ?_⟩
    · show p + 1 + rest.length = b.size
      omega
    · show (out ++ [(b.getD p 0).toNat].toArray).toList = _
      rw [Array.toList_append, ho, List.take_add_one, List.getElem?_map]
      have hp : p < b.toList.length := by rw [Array.length_toList]; omega
      rw [List.getElem?_eq_getElem hp]
      congr 1
      show [(b.getD p 0).toNat] = [(b.toList[p]'hp).toNat]
      rw [Array.getD_eq_getD_getElem?, Array.getElem?_eq_getElem (by omega)]
      rfl
  · obtain ⟨rfl, hl, ho⟩ := hI
    obtain ⟨p, out, f⟩ := st
    dsimp only at hl ho ⊢
    have hp : p = b.size := by simpa using hl
    subst hp
    have e : out = b.map (·.toNat) := by
      apply Array.toList_inj.mp
      rw [ho, Array.toList_map]
      apply List.take_of_length_le
      rw [List.length_map, Array.length_toList]
      exact Nat.le_refl _
    rw [e]
    exact wpAny_pure h

theorem meets_text_latin {b : Array UInt8} {t t1 t2 : Tok} {d : PySem.Str} (hz : b.size ≤ 2 ^ 20) :
    Meets («_codecs.decode.text» ⟨[.bytes b t, .str (PySem.Str.ofString "latin1") t1, .none, .str d t2], []⟩) (fun _ R s => R (.ok (.ret (.str ⟨b.map (·.toNat)⟩ s.toks))) { s with toks := s.toks + 1 }) := by
  refine .of_wp fun prog w A R s hS => ?_
  show wpAny _ _ (Bytes.bytesLike _ (.bytes b t) >>= fun r => _) _ _ s
  refine wpAny_bind (wpAny_of_eq KBd.like_eq ?_)
  refine wpAny_bind (wpAny_of_eq KBd.held_eq ?_)
  show wpAny _ _ (_codecs.decodeRoad _ b (PySem.Str.ofString "latin1") none [] >>= fun v => _) _ _ s
  rw [road_latin]
  refine wpAny_bind (wpAny_bind (run_latin hz ?_))
  refine wpAny_mkStr (wpAny_pure ⟨_, rfl, hS⟩) ?_
  show (b.map (·.toNat)).size ≤ sizeLine
  rw [Array.size_map]; unfold sizeLine; omega

section
variable {prog : Program} {w : World} {A : Around} {E : Value → Shared → Prop} {s : Shared}
theorem call_decode {c : UInt8} {cs : List UInt8} {t u : Tok} {Q : Value → Shared → Prop} (hz : (c :: cs).length ≤ 2 ^ 20)
    (h : ∀ x t' k, x.cps.toList = (c :: cs).map (·.toNat) → Q (.str x t') { s with toks := k }) :
    wpAny (model prog w) A (call (.builtin "bytes.decode") [.bytes (c :: cs).toArray t, .str (PySem.Str.ofString "latin1") u]) Q E s := by
  refine wpAny_call ?_
  refine codeAny_call_builtin FB.slot_bytes_decode.plain FB.entry_bytes_decode ?_
  refine FB.slot_bytes_decode.check _ _ _ _ _ _ _ _ (typeIs_bytes _ _ _) (args_bytes_decode_2 _ _) ?_
  rw [entry_latin]
  refine wpAny_bind (wpAny_mkStr ?_ (by decide))
  refine wpAny_bind (wpAny_mkStr ?_ (by decide))
  refine wpAny_bind (wpAny_mkStr ?_ (by decide))
  refine wpAny_bind (call_function_meets KBd.kind_text KBd.plain_text KBd.entry_text (KBd.args_text _ _ _ _) (meets_text_latin (by rw [List.size_toArray]; exact hz)) ?_)
  exact wpAny_pure (h _ _ _ (by simp))
end
end Mine

namespace Mine
open PySem PySem.W PyProof.Rows PySem.Calls
open PySem.Builtin PySem.Builtin.Str

section
variable {prog : Program} {w : World} {A : Around} {E : Value → Shared → Prop} {s : Shared} {mg mb : Str → Option Value}

theorem mapL_at {c : Nat} (h : c < 256) : mapL[c]? = some ⟨(enc1 c).toArray⟩ := by
  unfold mapL
  rw [List.getElem?_map, List.getElem?_range h]
  rfl
theorem table_text {c : Nat} {Q : Mapped → Shared → Prop} (H : Hp mg mb s.heap) (hc : c < 256) (h : ∀ k, Q (.text ⟨(enc1 c).toArray⟩) { s with toks := k }) :
    wpAny (model prog w) A (tableLookup (.ref 44) c) Q E s := by
  obtain ⟨items, hl, _, hi⟩ := H.map
  obtain ⟨u, hx⟩ := hi c _ (mapL_at hc)
  unfold tableLookup
  refine wpAny_bind ?_
  refine wpAny_attempt ?_
  refine wpAny_bind ?_
  refine wpAny_mkInt ?_
  refine wpAny_getItem_list (k := (c : Int)) hl (by omega) (by omega) (by simpa using hx) ?_
  dsimp only
  refine wpAny_bind (wpAny_of_eq (a := none) rfl ?_)
  refine wpAny_bind (wpAny_of_eq (a := some (⟨(enc1 c).toArray⟩ : Str)) rfl ?_)
  exact wpAny_pure (h _)
def KnownOk (kn : List (Nat × Option Nat)) : Prop := ∀ k a, kn.lookup k = some a → ∃ d, a = some d ∧ enc1 k = [d]
/-- what the loop has made so far -/
def TrOk (done : List Nat) (st : List Str × Nat × Bool × List (Nat × Option Nat) × Bool) : Prop :=
  st.2.2.2.2 = false ∧ st.1.reverse.foldl (fun acc p => acc ++ p.cps) #[] = (done.flatMap enc1).toArray ∧ st.2.1 ≤ 3 * done.length ∧ KnownOk st.2.2.2.1
theorem trOk_nil (b : Bool) : TrOk [] ([], 0, b, [], false) := ⟨rfl, rfl, Nat.le_refl _, fun _ _ h => nomatch h⟩
theorem enc1_len (c : Nat) : (enc1 c).length ≤ 3 := by
  unfold enc1
  split
  · exact Nat.le_of_ble_eq_true rfl
  · split <;> exact Nat.le_of_ble_eq_true rfl
theorem enc_len : ∀ l : List Nat, (l.flatMap enc1).length ≤ 3 * l.length
  | [] => Nat.le_refl _
  | c :: r => by
    rw [List.flatMap_cons, List.length_append, List.length_cons]
    have := enc1_len c
    have := enc_len r
    omega
theorem trOk_next {done : List Nat} {pieces : List Str} {total : Nat} {fast : Bool} {known : List (Nat × Option Nat)} {c n : Nat} {y : Str} (hp : pieces.reverse.foldl (fun acc p => acc ++ p.cps) #[] = (done.flatMap enc1).toArray)
    (ht : total ≤ 3 * done.length) (hk : KnownOk known) (hy : y = ⟨(enc1 c).toArray⟩) (hn : n ≤ 3) : TrOk (done ++ [c]) (y :: pieces, total + n, fast, known, false) := by
  subst hy
  refine ⟨rfl, ?_, ?_, hk⟩
  · dsimp only
    rw [List.reverse_cons, List.foldl_append, hp, List.flatMap_append]
    simp
  · dsimp only
    rw [List.length_append]
    show _ ≤ 3 * (done.length + 1)
    omega
theorem known_next {known : List (Nat × Option Nat)} {c d : Nat} (hk : KnownOk known) (h : enc1 c = [d]) : KnownOk ((c, some d) :: known) := fun k a e => by
  rw [List.lookup_cons] at e
  cases q : k == c with
  | true =>
    rw [q] at e
    cases e
    rw [beq_iff_eq.mp q]
    exact ⟨d, rfl, h⟩
  | false =>
    rw [q] at e
    exact hk k a e
theorem tr_one (x : Str) (t : Tok) (v : Value) : strOneArg "translate" ⟨[.str x t, v], []⟩ = pure (.str x t, x, v) := by rfl
theorem call_translate {x : Str} {t : Tok} {Q : Value → Shared → Prop} (H : Hp mg mb s.heap) (hz : x.length ≤ 2 ^ 18) (h0 : 1 ≤ x.length) (hc : ∀ c ∈ x.cps.toList, c < 256)
    (hQ : ∀ y t' k, y.cps.toList = x.cps.toList.flatMap enc1 → Q (.str y t') { s with toks := k }) :
    wpAny (model prog w) A (call (.builtin "str.translate") [.str x t, .ref 44]) Q E s := by
  refine wpAny_call ?_
  refine codeAny_call_builtin PySem.F.slot_str_translate.plain PySem.F.entry_str_translate ?_
  refine PySem.F.slot_str_translate.check _ _ _ _ _ _ _ _ (typeIs_str _ _ _) (PySem.F.args_str_translate_2 _ _) ?_
  show wpAny _ _ (strOneArg "translate" ⟨[.str x t, .ref 44], []⟩ >>= fun r => _) _ _ s
  refine wpAny_bind (wpAny_of_eq (tr_one _ _ _) ?_)
  dsimp only
  refine bm_if_false (by rw [beq_eq_false_iff_ne]; omega) ?_
  rw [← Array.forIn_toList]
  refine wpAny_bind (wpAny_forIn_list _ (fun rest (st : List Str × Nat × Bool × List (Nat × Option Nat) × Bool) s' => ∃ done k, x.cps.toList = done ++ rest ∧ s' = { s with toks := k } ∧ TrOk done st) _
    (fun c rest st s' hI => ?_) (fun st s' hI => ?_) _ _ ⟨[], s.toks, rfl, rfl, trOk_nil _⟩)
  · obtain ⟨done, k, hd, rfl, hT⟩ := hI
    have hc' : c < 256 := hc c (by rw [hd]; simp)
    have hlen : done.length + rest.length + 1 ≤ 2 ^ 18 := by
      have : x.cps.toList.length = done.length + (rest.length + 1) := by rw [hd, List.length_append, List.length_cons]
      rw [Array.length_toList] at this
      have h1 : x.cps.size ≤ 2 ^ 18 := hz
      omega
    have hd' : x.cps.toList = (done ++ [c]) ++ rest := by rw [hd, List.append_assoc]; rfl
    have H' : ∀ k, Hp mg mb ({ s with toks := k } : Shared).heap := fun _ => H
    obtain ⟨pieces, total, fast, known, after⟩ := st
    obtain ⟨ha, hp, ht, hk⟩ := hT
    dsimp only at ha hp ht hk ⊢
    subst ha
    have slow : ∀ (k : Nat) (kn : List (Nat × Option Nat)), KnownOk kn → ∀ R : ForInStep (List Str × Nat × Bool × List (Nat × Option Nat) × Bool) → Shared → Prop,
        (∀ k', R (.yield (⟨(enc1 c).toArray⟩ :: pieces, total + (⟨(enc1 c).toArray⟩ : Str).length, false, kn, false)) { s with toks := k' }) → 
        wpAny (model prog w) A.in1 (do
          if false = true then do
            match ← tableLookup (.ref 44) c with
            | .drop => pure (ForInStep.yield (pieces, total, false, kn, false))
            | _ => do
              match ← tableLookup (.ref 44) c with
              | .keep => pure (ForInStep.yield (⟨#[c]⟩ :: pieces, total + 1, false, kn, false))
              | .drop => pure (ForInStep.yield (pieces, total, false, kn, true))
              | .char d => pure (ForInStep.yield (⟨#[d]⟩ :: pieces, total + 1, false, kn, false))
              | .text t => pure (ForInStep.yield (t :: pieces, total + t.length, false, kn, false))
          else
            match ← tableLookup (.ref 44) c with
            | .keep => pure (ForInStep.yield (⟨#[c]⟩ :: pieces, total + 1, false, kn, false))
            | .drop => pure (ForInStep.yield (pieces, total, false, kn, true))
            | .char d => pure (ForInStep.yield (⟨#[d]⟩ :: pieces, total + 1, false, kn, false))
            | .text t => pure (ForInStep.yield (t :: pieces, total + t.length, false, kn, false))) R (fun e s' => wants Q E (.error e) s') { s with toks := k } := fun k kn hkn R hR => by
      refine bm_if_false rfl (wpAny_bind (table_text (H' k) hc' (fun k' => ?_)))
      exact wpAny_pure (hR k')
    refine bm_if_false (by unfold tooLong sizeLine; exact decide_eq_false (by omega)) ?_
    cases fast with
    | false =>
      refine bm_if_false rfl ?_
      exact slow k known hk _ (fun k' => ⟨done ++ [c], k', hd', rfl, trOk_next hp ht hk rfl (enc1_len c)⟩)
    | true =>
      refine bm_if_true rfl ?_
      cases hl : known.lookup c with
      | some a =>
        obtain ⟨d, rfl, hd1⟩ := hk c a hl
        refine wpAny_bind (wpAny_pure ?_)
        exact wpAny_pure ⟨done ++ [c], k, hd', rfl, trOk_next hp ht hk (by rw [hd1]) (by omega)⟩
      | none =>
        refine wpAny_bind (table_text (H' k) hc' (fun k' => ?_))
        dsimp only
        cases hb : ((⟨(enc1 c).toArray⟩ : Str).length == 1 && (⟨(enc1 c).toArray⟩ : Str).cps.all fun x => decide (x < 128)) with
        | true =>
          have h1 : (enc1 c).length = 1 := by
            rw [Bool.and_eq_true] at hb
            have := beq_iff_eq.mp hb.1
            show (enc1 c).toArray.toList.length = 1
            rw [Array.length_toList]
            exact this
          obtain ⟨d, hd1⟩ := List.length_eq_one_iff.mp h1
          have e0 : (⟨(enc1 c).toArray⟩ : Str).cps[0]? = some d := by rw [hd1]; rfl
          rw [if_pos rfl, e0]
          refine wpAny_bind (wpAny_pure ?_)
          exact wpAny_pure ⟨done ++ [c], k', hd', rfl, trOk_next hp ht (known_next hk hd1) (by rw [hd1]) (by omega)⟩
        | false =>
          rw [if_neg Bool.false_ne_true]
          refine wpAny_bind (wpAny_pure ?_)
          refine wpAny_bind (wpAny_rule ?_)
          exact slow k' known hk _ (fun k'' => ⟨done ++ [c], k'', hd', rfl, trOk_next hp ht hk rfl (enc1_len c)⟩)
  · obtain ⟨done, k, hd, rfl, hT⟩ := hI
    obtain ⟨pieces, total, fast, known, after⟩ := st
    obtain ⟨ha, hp, ht, hk⟩ := hT
    dsimp only at ha hp ht hk ⊢
    have hlen : done.length ≤ 2 ^ 18 := by
      have : x.cps.toList.length = done.length := by rw [hd, List.append_nil]
      rw [Array.length_toList] at this
      have h1 : x.cps.size ≤ 2 ^ 18 := hz
      omega
    rw [List.append_nil] at hd
    refine bm_if_false (by unfold tooLong sizeLine; exact decide_eq_false (by omega)) ?_
    rw [hp]
    refine wpAny_bind (wpAny_mkStr (wpAny_pure ?_) ?_)
    · exact hQ _ _ _ (by rw [hd])
    · show (done.flatMap enc1).toArray.size ≤ sizeLine
      rw [List.size_toArray]
      have := enc_len done
      unfold sizeLine; omega
end
end Mine

namespace Mine
open PySem PySem.W PyProof.Rows PySem.Calls

/-- the word that header_encode writes -/
def wordCs (nm cs : List Nat) : List Nat := [61, 63] ++ nm ++ [63, 113, 63] ++ cs.flatMap enc1 ++ [63, 61]

section
variable {prog : Program} {w : World} {A : Around} {E : Value → Shared → Prop} {s : Shared} {mg mb : Str → Option Value}

theorem gm_translate {M : Model} {x : Str} {t : Tok} {pl : Sem Bool} {Q : Value × List Value → Shared → Prop} (h : Q (.builtin "str.translate", [.str x t]) s) : wpAny M A (getMethod (.str x t) "translate" pl) Q E s := by
  with_reducible exact GM.of (.str x t) (typeIs_str _ _ _) PySem.F.slot_str_translate PySem.F.type_str_translate GM.noRef h

theorem fmt_s {value : Expr} {env : Env} {pos : Pos} {x : Str} {Q : Value → Shared → Prop}
    (h : wpAny (model prog w) A (eval value env) (fun v s₁ => ∃ t, v = .str x t ∧ ∀ t' k, Q (.str x t') { s₁ with toks := k }) E s) (hx : x.length ≤ sizeLine) :
    wpAny (model prog w) A (eval (.FormattedValue value 115 none pos) env) Q E s := by
  refine wpAny_FormattedValue_s (wpAny_mono h (fun v s₁ h₁ => ?_) fun _ _ e => e)
  obtain ⟨t, rfl, hQ⟩ := h₁
  show wpAny _ _ (habitSame "fstring-hands-on-the-str" (.str x t)) _ _ _
  have q2 : ∀ t' k, wpAny (model prog w) A (formatField (.str x t') Str.empty) Q E { s₁ with toks := k } := fun t' k =>
    wpAny_formatField_str (hQ _ _) (hQ _ _) hx
  exact wpAny_habitSame_str (q2 t s₁.toks) (q2 _ _) hx

set_option maxHeartbeats 2000000 in
theorem header_encode_spec {c : UInt8} {cs : List UInt8} {nm : Str} {t u : Tok} {Q : Value → Shared → Prop} (H : Hp mg mb s.heap) (hroom : A.depth < recursionLimit) (hz : (c :: cs).length ≤ 2 ^ 18) (hnm : nm.length ≤ 2 ^ 18)
    (hQ : ∀ h' tk tk', Keeps s.heap h' → Q (.str ⟨(wordCs nm.cps.toList ((c :: cs).map (·.toNat))).toArray⟩ tk) { s with heap := h', toks := tk' }) :
    wpAny (model prog w) A (call (.ref 67) [.bytes (c :: cs).toArray t, .str nm u]) Q E s := by
  obtain ⟨o, pm, cd, doc, d, od, dv, n, ho, hd, hcd, hod, hdd⟩ := H.he
  have hb : BindsTo s { docDef "header_encode" (fnArgs 14) (fnBody 14) (fnScope 14) pm cd doc with defaults := .ref d } ⟨[.bytes (c :: cs).toArray t, .str nm u], []⟩ [("header_bytes", .bytes (c :: cs).toArray t), ("charset", .str nm u)] :=
    BindsTo.of_defaults rfl hod hdd (by rfl) (by rfl)
  have hcell : ∀ x ∈ (fnScope 14).names, x.2 ≠ .cell := by decide
  refine wpAny_call (codeAny_call_def hroom ho hd H.nolimit hcd rfl hb hcell (locs (by rfl)) (fun h₁ hns hk => ?_) rfl rfl rfl)
  have F : Fr s.heap s.heap.objs.size h₁ (fun x => [((Str.ofString "header_bytes"), Value.bytes (c :: cs).toArray t), (Str.ofString "charset", .str nm u)].reverse.lookup x) := ⟨hns, hk, Nat.le_refl _⟩
  have H₁ := H.keeps F.keep
  show wpAny _ (A.deeper (envOf "header_encode" (fnScope 14) s.heap.objs.size 67 cd)) (execs (_ :: _ :: _ :: []) (envOf "header_encode" (fnScope 14) s.heap.objs.size 67 cd)) _ _ _
  refine wpAny_mono (Q := fun f s' => wants Q E (.ok (.ret (match f with | .ret v => v | _ => .none))) s') (E := fun _ _ => False) ?_ (fun _ _ x => x) (fun _ _ x => x.elim)
  refine wpAny_execs_cons ?_
  refine wpAny_If ?_
  refine wpAny_isTrue_Not ?_
  refine isTrue_plain ?_
  refine ld F (by rfl) ?_
  have hsz : (c :: cs).toArray.size = cs.length + 1 := by rw [List.size_toArray, List.length_cons]
  refine truthy_bytes (by rw [hsz]; rw [List.length_cons] at hz; omega) ?_
  have hne : (((c :: cs).toArray.size : Int) != 0) = true := by
    rw [hsz, bne_iff_ne]
    omega
  rw [hne]
  refine wpAny_execs_nil ?_
  refine wpAny_execs_cons (wpAny_Assign_Name ?_)
  refine MethodCall_ ?_
  refine MethodCall_ (ld F (by rfl) ?_)
  refine KBd.method ?_
  refine PyProof.Rows.callWith_method1 ?_
  refine args_cons ?_
  refine Constant_str ?_
  refine args_nil ?_
  refine call_decode (by rw [List.length_cons] at hz ⊢; omega) (fun x t' k hx => ?_)
  with_reducible refine gm_translate ?_
  refine PyProof.Rows.callWith_method1 ?_
  refine args_cons ?_
  refine ldOwn H₁ (by rfl) ?_
  refine args_nil ?_
  have hxl : x.length = cs.length + 1 := by
    show x.cps.size = _
    rw [← Array.length_toList, hx, List.length_map, List.length_cons]
  rw [List.length_cons] at hz
  dsimp only
  refine call_translate H₁ (by omega) (by omega) ?_ (fun y t'' k' hy => ?_)
  · intro z hz'
    rw [hx] at hz'
    obtain ⟨v, _, rfl⟩ := List.mem_map.mp hz'
    exact v.toNat_lt
  have hyl : y.length ≤ 3 * 2 ^ 18 := by
    show y.cps.size ≤ _
    rw [← Array.length_toList, hy]
    have := enc_len x.cps.toList
    have h3 : x.cps.toList.length = x.cps.size := Array.length_toList
    have h2 : x.cps.size = cs.length + 1 := hxl
    omega
  rw [hx] at hy
  refine st F (fun h' F' => ?_)
  dsimp only
  refine wpAny_execs_cons (wpAny_Return_some ?_)
  have l1 : (Str.ofString "=?").length = 2 := by decide +kernel
  have l2 : (Str.ofString "?q?").length = 3 := by decide +kernel
  have l3 : (Str.ofString "?=").length = 2 := by decide +kernel
  have l0 : Str.empty.length = 0 := by decide +kernel
  have e1 : (Str.ofString "=?").cps = #[61, 63] := by decide +kernel
  have e2 : (Str.ofString "?q?").cps = #[63, 113, 63] := by decide +kernel
  have e3 : (Str.ofString "?=").cps = #[63, 61] := by decide +kernel
  have e0 : Str.empty.cps = #[] := by decide +kernel
  refine wpAny_JoinedStr ?_
  refine Constant_str ⟨_, _, rfl, by rw [Str.length_append, l0, l1]; unfold sizeLine; omega, ?_⟩
  dsimp only
  refine fmt_s (ld F' (by rfl) ⟨_, rfl, fun t1 k1 => ⟨_, _, rfl, by rw [Str.length_append, Str.length_append, l0, l1]; unfold sizeLine; omega, ?_⟩⟩) (by unfold sizeLine; omega)
  dsimp only
  refine Constant_str ⟨_, _, rfl, by rw [Str.length_append, Str.length_append, Str.length_append, l0, l1, l2]; unfold sizeLine; omega, ?_⟩
  dsimp only
  refine fmt_s (ld F' (by rfl) ⟨_, rfl, fun t2 k2 => ⟨_, _, rfl, by rw [Str.length_append, Str.length_append, Str.length_append, Str.length_append, l0, l1, l2]; unfold sizeLine; omega, ?_⟩⟩) (by unfold sizeLine; omega)
  dsimp only
  refine Constant_str ⟨_, _, rfl, by rw [Str.length_append, Str.length_append, Str.length_append, Str.length_append, Str.length_append, l0, l1, l2, l3]; unfold sizeLine; omega, ?_⟩
  refine ⟨by rw [Str.length_append, Str.length_append, Str.length_append, Str.length_append, Str.length_append, l0, l1, l2, l3]; unfold sizeLine; omega, ?_⟩
  have fin : Str.empty ++ Str.ofString "=?" ++ nm ++ Str.ofString "?q?" ++ y ++ Str.ofString "?=" = ⟨(wordCs nm.cps.toList ((c :: cs).map (·.toNat))).toArray⟩ := by
    apply Str.ext'
    simp only [Str.cps_append, e0, e1, e2, e3]
    apply Array.toList_inj.mp
    unfold wordCs
    rw [← hy]
    simp
  dsimp only
  rw [fin]
  exact hQ _ _ _ F'.keep
end
end Mine

namespace Mine
open PySem PySem.W PyProof.Rows PySem.Calls

section
variable {prog : Program} {w : World} {A : Around} {E : Value → Shared → Prop} {s : Shared} {mg mb : Str → Option Value} {h₀ : Heap} {L a : Addr} {m : Str → Option Value} {name : Str} {scope : Scope} {cd : Value}

theorem stS {M : Model} {x : Str} {v : Value} {Q : Unit → Shared → Prop} (F : Fr h₀ L s.heap m)
    (h : ∀ h', Fr h₀ L h' (fun y => if y = x then some v else m y) → Heap.SameBut L s.heap h' → Q () { s with heap := h', toks := s.toks + 1 })
    (hk : scope.kind = .function := by rfl) (hl : (envOf name scope L a cd).kindOf x = some .local := by rfl) :
    wpAny M A (storeName (envOf name scope L a cd) x v) Q E s :=
  wpAny_storeName_local hl F.ns (fun h' hn hs => h h' (F.set hn hs) hs)
    (by show (scope.kind == .class || (scope.kind == .module && L != mainGlobals)) = false; rw [hk]; rfl)

/-- a for over what an iterator gives, by an invariant over the frame's map and the heap -/
theorem forLoop_walk {x : Str} {px : Pos} {body : List Stmt} {I : Addr} {fp wr : List Addr} {n : Nat} {P : Nat → Value → Prop} {St : Nat → Heap → Prop} {R : Result → Shared → Prop}
    (W : Walks prog w A I fp wr n P St) (hfp : ∀ b ∈ fp, b ≠ L) (hwn : ∀ b ∈ wr, h₀.get? b = none)
    (J : Nat → (Str → Option Value) → Heap → Prop)
    (hJ : ∀ i m h h', J i m h → (∀ b o, b ∉ wr → h.get? b = some o → h'.get? b = some o) → J i m h')
    (F : Fr h₀ L s.heap m) (hst : St 0 s.heap) (h0 : J 0 m s.heap)
    (turn : ∀ i v m' h' h'' tk, i < n → P i v → J i m' h' → Heap.SameBut L h' h'' → Fr h₀ L h'' (fun y => if y = x then some v else m' y) →
      wpAny (model prog w) A (execs body (envOf name scope L a cd)) (fun f s₃ => ∃ h₃ tk₃ m₃, f = .next ∧ s₃ = { s with heap := h₃, toks := tk₃ } ∧ Fr h₀ L h₃ m₃ ∧ J (i + 1) m₃ h₃ ∧
        ∀ b ∈ fp, ∀ o, h''.get? b = some o → h₃.get? b = some o) (fun _ _ => False) { s with heap := h'', toks := tk })
    (hR : ∀ h' tk m', Fr h₀ L h' m' → J n m' h' → R (.ok .next) { s with heap := h', toks := tk })
    (hk : scope.kind = .function := by rfl) (hl : (envOf name scope L a cd).kindOf x = some .local := by rfl) :
    codeAny (model prog w) A (.forLoop (.Name x px) (.ref I) body [] (envOf name scope L a cd)) R s := by
  have hwr : ∀ b ∈ wr, b ≠ L ∧ h₀.get? b = none := fun b hb => ⟨hfp b (W.sub b hb), hwn b hb⟩
  have frKeep : ∀ {h h' : Heap} {m' : Str → Option Value}, Fr h₀ L h m' → (∀ b o, b ∉ wr → h.get? b = some o → h'.get? b = some o) → Fr h₀ L h' m' := fun {h h' m'} F hk => by
    obtain ⟨o, es, ep, ho, r⟩ := F.ns
    exact ⟨⟨o, es, ep, hk L o (fun hm => (hwr L hm).1 rfl) ho, r⟩, fun b o' e => hk b o' (fun hm => by rw [(hwr b hm).2] at e; cases e) (F.keep b o' e), F.above⟩
  refine codeAny_forLoop_any (fun k s' => ∃ i h' tk m', s' = { s with heap := h', toks := tk } ∧ k = n + 1 - i ∧ i ≤ n ∧ St i h' ∧ Fr h₀ L h' m' ∧ J i m' h') (fun k s' hI => ?_) (n + 1) ⟨0, s.heap, s.toks, m, rfl, rfl, Nat.zero_le _, hst, F, h0⟩
  obtain ⟨i, h', tk, m', rfl, rfl, hi, hs', F', hJ'⟩ := hI
  by_cases hlt : i < n
  · refine W.item i _ _ _ hlt hs' (fun v h₁ tk₁ hP hst₁ hk₁ => ?_)
    refine wpAny_of_eq (a := ()) rfl ?_
    have F₁ := frKeep F' hk₁
    have hJ₁ := hJ i m' h' h₁ hJ' hk₁
    refine wpAny_assign_Name (wpAny_storeName_local hl F₁.ns (fun h₂ hn₂ hs₂ => ?_)
      (by show (scope.kind == .class || (scope.kind == .module && L != mainGlobals)) = false; rw [hk]; rfl))
    have F₂ : Fr h₀ L h₂ (fun y => if y = x then some v else m' y) := F₁.set hn₂ hs₂
    refine wpAny_mono (turn i v m' h₁ h₂ _ hlt hP hJ₁ hs₂ F₂) (fun f s₃ h₃ => ?_) (fun _ _ e => e.elim)
    obtain ⟨h₃, tk₃, m₃, rfl, rfl, F₃, hJ₃, hk₃⟩ := h₃
    refine ⟨n + 1 - (i + 1), by omega, i + 1, h₃, tk₃, m₃, rfl, rfl, hlt, ?_, F₃, hJ₃⟩
    exact W.frame (i + 1) h₁ h₃ hst₁ fun b hb o e => hk₃ b hb o (hs₂.extBut b o (hfp b hb) e)
  · have hin : i = n := by omega
    subst hin
    refine W.done _ _ _ hs' (fun h₁ tk₁ hk₁ => ?_)
    exact wpAny_execs_nil (hR h₁ tk₁ m' (frKeep F' hk₁) (hJ _ m' h' h₁ hJ' hk₁))
end
end Mine

namespace Mine
open PySem PySem.W PyProof.Rows PySem.Calls

theorem pieces_ok : ∀ i : Fin 16, ∃ y, piecesL[i.val]? = some y ∧ 1 ≤ y.length ∧ y.length ≤ 9 ∧ (y.cps.toList.all (· < 256)) = true := by
  intro i
  have h : ∀ i : Fin 16, (match piecesL[i.val]? with | some y => decide (1 ≤ y.length) && decide (y.length ≤ 9) && y.cps.toList.all (· < 256) | none => false) = true := by decide +kernel
  have q := h i
  cases e : piecesL[i.val]? with
  | none => rw [e] at q; cases q
  | some y =>
    rw [e] at q
    simp only [Bool.and_eq_true, decide_eq_true_eq] at q
    exact ⟨y, rfl, q.1.1, q.1.2, q.2⟩

/-- a row's text: not empty, octets alone, at most so long -/
structure RowOk (y : Str) (n : Nat) : Prop where
  pos : 1 ≤ y.length
  len : y.length ≤ 1 + 9 * n
  oct : ∀ c ∈ y.cps.toList, c < 256
theorem RowOk.add {y z : Str} {n : Nat} (h : RowOk y n) (h2 : z.length ≤ 9) (h3 : ∀ c ∈ z.cps.toList, c < 256) : RowOk (y ++ z) (n + 1) := by
  refine ⟨?_, ?_, fun c hc => ?_⟩
  · rw [Str.length_append]; have := h.pos; omega
  · rw [Str.length_append]; have := h.len; omega
  · rw [Str.cps_append, Array.toList_append] at hc
    rcases List.mem_append.mp hc with q | q
    · exact h.oct c q
    · exact h3 c q

section
variable {prog : Program} {w : World} {A : Around} {E : Value → Shared → Prop} {s : Shared} {mg mb : Str → Option Value}

theorem sub_tuple {value slice : Expr} {pos : Pos} {env : Env} {Q : Value → Shared → Prop}
    (h : wpAny (model prog w) A (eval value env) (fun o s₁ => wpAny (model prog w) A (eval slice env) (fun i s₂ => ∃ t items k u j x, o = .ref t ∧ i = .int k u ∧ s₂.heap.IsTuple t items ∧ 0 ≤ k ∧ k < items.size ∧ items.size ≤ 2 ^ 20 ∧ k.toNat = j ∧ items[j]? = some x ∧ Q x s₂) E s₁) E s)
    (hs : ∀ t k u, subscripted slice false (.ref t) (.int k u) = operate [.ref t, .int k u] (getItem (.ref t) (.int k u)) := by intro _ _ _; with_unfolding_all rfl)
    (ht : ∀ o r, letTemporaryGo value o r = pure () := by intro _ _; rfl) :
    wpAny (model prog w) A (eval (.Subscript value slice pos) env) Q E s := by
  refine Subscript_ (wpAny_mono h (fun o s₁ h₁ => wpAny_mono h₁ (fun i s₂ h₂ => ?_) fun _ _ e => e) fun _ _ e => e)
  obtain ⟨t, items, k, u, j, x, rfl, rfl, hT, h0, h1, hz, rfl, hx, hQ⟩ := h₂
  have hT' : IsTup s₂.heap t items := hT
  exact subscriptTail_builtin hT'.typeIs slot_tuple_getitem.lookup (PyProof.Rows.getItem_tuple hT' (by omega) (by omega) (seqIndex_of h0 h1) hx hQ) (hs t k u) (ht _)

set_option maxHeartbeats 2000000 in
theorem law_row_spec {l : Addr} {vs : List Value} {ns : List Int} {Q : Value → Shared → Prop} (H : Hp mg mb s.heap) (hh : A.handled = none) (hroom : A.depth < recursionLimit) (hl : s.heap.IsList l vs.toArray) (hi : IntsAre vs ns) (hn : ns.length ≤ 2 ^ 10)
    (hQ : ∀ h' y tk tk', Keeps s.heap h' → RowOk y ns.length → Q (.str y tk) { s with heap := h', toks := tk' }) :
    wpAny (model prog w) A (call (.ref 95) [.ref l]) Q E s := by
  refine enter (k := 24) (name := "_law_row") (binds := [("numbers", .ref l)]) H (H.fn (95, "_law_row", 24) (by decide)) (by omega) (fun _ _ _ => by rfl) (locs (by rfl)) (fun L cd h₁ F H₁ => ?_)
  show wpAny _ _ (execs (_ :: _ :: _ :: []) _) _ _ _
  refine wpAny_execs_cons ?_
  refine wpAny_Assign_Name ?_
  refine Constant_str ?_
  refine st F (fun h' F' => ?_)
  dsimp only
  have hl' : h'.IsList l vs.toArray := isList_keeps hl F'.keep
  have hlL : l ≠ L := fun e => by
    obtain ⟨o, ho, _⟩ := hl
    have h1 := Heap.lt_size ho
    have h2 := F.above
    rw [e] at h1
    exact absurd (Nat.lt_of_lt_of_le h1 h2) (Nat.lt_irrefl _)
  refine wpAny_execs_cons ?_
  refine wpAny_For ?_
  refine ld F' (by rfl) ?_
  refine wpAny_pyIter_list hl' ?_
  dsimp only
  have hI : h'.objs.size ≠ L := Nat.ne_of_gt F'.ns.lt
  have hIn : s.heap.get? h'.objs.size = none := by
    cases q : s.heap.get? h'.objs.size with
    | none => rfl
    | some o => exact absurd (Heap.lt_size (F'.keep _ _ q)) (Nat.lt_irrefl _)
  have fpL : ∀ b ∈ [h'.objs.size, l], b ≠ L := fun b hb => by
    simp only [List.mem_cons, List.not_mem_nil, or_false] at hb
    rcases hb with rfl | rfl
    · exact hI
    · exact hlL
  refine forLoop_walk (h₀ := s.heap) (Walks.list (prog := prog) (w := w) (A := A.deeper (envOf "_law_row" (fnScope 24) L 95 cd)) hh h'.objs.size l (fun e => by rw [e] at hl'; obtain ⟨o, ho, _⟩ := hl'; exact absurd (Heap.lt_size ho) (Nat.lt_irrefl _)) vs.toArray) fpL (fun b hb => ?_)
    (fun i m' _ => ∃ y t, m' "text" = some (.str y t) ∧ RowOk y i) (fun i m h h' hJ _ => hJ) (F'.push _) ⟨⟨_, Heap.get?_push_size _ rfl, rfl, rfl⟩, hl'.push _⟩ ⟨_, _, rfl, ?_⟩ (fun i v m' ha hb tk hi' hP hJ hsb Fx => ?_) (fun hz tk m' Fz hJ => ?_)
  · simp only [List.mem_cons, List.not_mem_nil, or_false] at hb
    subst hb
    exact hIn
  · exact ⟨by decide +kernel, by decide +kernel, by decide +kernel⟩
  · obtain ⟨y, t, hm, hy⟩ := hJ
    have hv : vs[i]? = some v := by simpa using hP
    obtain ⟨n, u, rfl, hnn⟩ := IntsAre.at hi i v hv
    have hm' : (fun y => if y = Str.ofString "x" then some (Value.int n u) else m' y) "text" = some (.str y t) := hm
    have Hx := H.keeps Fx.keep
    refine wpAny_execs_cons ?_
    refine wpAny_If ?_
    refine wpAny_isTrue_Compare1 ?_
    refine wpAny_BinOp ?_
    refine ld Fx (by rfl) ?_
    refine wpAny_Constant_int ?_
    refine mod_int' (by decide) ?_
    refine wpAny_Constant_int ?_
    refine PyProof.Rows.lt_int ?_
    refine wpAny_truthy_bool ?_
    dsimp only
    have m0 := Int.fmod_nonneg_of_pos n (show (0 : Int) < 32 by decide)
    cases hb16 : decide (n.fmod 32 < 16) with
    | true =>
      have hlt : n.fmod 32 < 16 := of_decide_eq_true hb16
      rw [if_pos rfl]
      obtain ⟨items, hT, hsz, hit⟩ := Hx.pieces
      obtain ⟨z, hz1, hz2, hz3, hz4⟩ := pieces_ok ⟨(n.fmod 32).toNat, by omega⟩
      obtain ⟨uz, hz5⟩ := hit _ _ hz1
      have hsz' : items.size = 16 := by rw [hsz]; rfl
      refine wpAny_execs_cons ?_
      refine wpAny_AugAssign_Name ?_
      refine ldn Fx hm' ?_
      refine sub_tuple ?_
      refine ldOwn Hx (by rfl) ?_
      refine wpAny_BinOp ?_
      refine ld Fx (by rfl) ?_
      refine wpAny_Constant_int ?_
      refine mod_int' (by decide) ⟨88, items, _, _, _, .str z uz, rfl, rfl, hT, m0, by rw [hsz']; omega, by rw [hsz']; decide, rfl, hz5, ?_⟩
      have hy2 := hy.len
      have hi2 : i ≤ ns.length := by
        have : vs.toArray.size = ns.length := by rw [List.size_toArray, hi.length]
        omega
      refine PyProof.Rows.iadd_str (fun t' tk' => ?_) (by unfold sizeLine; omega)
      refine stS Fx (fun h3 F3 hs3 => ?_)
      dsimp only
      refine wpAny_execs_nil (wpAny_execs_nil ?_)
      refine ⟨h3, _, _, rfl, rfl, F3, ⟨_, _, rfl, hy.add hz3 (fun c hc => by have := List.all_eq_true.mp hz4 c hc; simpa using this)⟩, fun b hb' o ho => ?_⟩
      exact hs3.extBut b o (fpL b hb') ho
    | false =>
      rw [if_neg Bool.false_ne_true]
      have m1 := Int.fmod_nonneg_of_pos (n.fdiv 32) (show (0 : Int) < 256 by decide)
      have m2 := Int.fmod_lt_of_pos (n.fdiv 32) (show (0 : Int) < 256 by decide)
      refine wpAny_execs_cons ?_
      refine wpAny_AugAssign_Name ?_
      refine ldn Fx hm' ?_
      refine Call_ ?_
      refine ldBlt Hx (by rfl) ?_
      refine PyProof.Rows.callWith_builtin1 ?_
      refine args_cons ?_
      refine wpAny_BinOp ?_
      refine wpAny_BinOp ?_
      refine ld Fx (by rfl) ?_
      refine wpAny_Constant_int ?_
      refine PyProof.Rows.floordiv_int (by decide) ?_ (Or.inl (PyProof.noPylong_small (by decide)))
      refine wpAny_Constant_int ?_
      refine mod_int' (by decide) ?_
      refine args_nil ?_
      refine P.chr_of_int ?_ ?_
      · rw [Bool.or_eq_false_iff]
        exact ⟨decide_eq_false (by omega), decide_eq_false (by omega)⟩
      have hy2 := hy.len
      have hi2 : i ≤ ns.length := by
        have : vs.toArray.size = ns.length := by rw [List.size_toArray, hi.length]
        omega
      have one : (⟨#[((n.fdiv 32).fmod 256).toNat]⟩ : Str).length = 1 := rfl
      refine PyProof.Rows.iadd_str (fun t' tk' => ?_) (by rw [one]; unfold sizeLine; omega)
      refine stS Fx (fun h3 F3 hs3 => ?_)
      dsimp only
      refine wpAny_execs_nil (wpAny_execs_nil ?_)
      refine ⟨h3, _, _, rfl, rfl, F3, ⟨_, _, rfl, hy.add (by rw [one]; omega) (fun c hc => by
        have : c = ((n.fdiv 32).fmod 256).toNat := by simpa using hc
        omega)⟩, fun b hb' o ho => ?_⟩
      exact hs3.extBut b o (fpL b hb') ho
  · obtain ⟨y, t, hm, hy⟩ := hJ
    refine wpAny_execs_cons ?_
    refine wpAny_Return_some ?_
    refine ld Fz hm ?_
    have e : vs.toArray.size = ns.length := by rw [List.size_toArray, hi.length]
    rw [e] at hy
    exact hQ _ _ _ _ Fz.keep hy
end
end Mine

namespace Mine
open PySem PySem.W PyProof.Rows PySem.Calls

section
variable {prog : Program} {w : World} {A : Around} {E : Value → Shared → Prop} {s : Shared} {mg mb : Str → Option Value}

theorem ldBltE {env : Env} {x : Str} {pos : Pos} {v : Value} {Q : Value → Shared → Prop} (H : Hp mg mb s.heap) (hv : bltL.lookup x = some v) (h : Q v s)
    (hg : env.globals = mainGlobals := by rfl) (hb : env.builtins = builtinsNs := by rfl) (hk : env.scope.kind = .function := by rfl) (hx : env.kindOf x = some .globalImplicit := by rfl)
    (hd : (x == ("__debug__" : Str)) = false := by decide) : wpAny (model prog w) A (eval (.Name x pos) env) Q E s :=
  Name_function_global hk hx (loadGlobal_builtin (env := env) (hg ▸ H.g) (H.blt _ _ hv).1 (hb ▸ H.b) (H.blt _ _ hv).2 h) hd

theorem paired_ints {x : Str} : ∀ (vs : List Value) (ys : List Value) (ns : List Nat), vs.length = ns.length → (∀ (j : Nat) (v : Value), vs[j]? = some v → ∃ c u, ns[j]? = some c ∧ v = Value.str ⟨#[c]⟩ u) →
    Paired (fun v y => ∀ (c : Nat) u, v = Value.str ⟨#[c]⟩ u → ∃ k, y = Value.int (c : Int) k) vs ys → IntsAre ys (ns.map Int.ofNat)
  | [], _, [], _, _, .nil => .nil
  | [], _, _ :: _, h, _, _ => by cases h
  | _ :: _, _, [], h, _, _ => by cases h
  | v :: vs, _, c :: ns, h, hP, .cons hv r => by
    obtain ⟨c', u, hc, rfl⟩ := hP 0 v rfl
    have e : c' = c := by simpa using hc.symm
    subst e
    obtain ⟨k, rfl⟩ := hv c' u rfl
    exact .cons _ _ (paired_ints (x := x) vs _ ns (by simpa using h) (fun j v hj => hP (j + 1) v (by simpa using hj)) r)

set_option maxHeartbeats 2000000 in
theorem law_octets_spec {x : Str} {t : Tok} {Q : Value → Shared → Prop} (H : Hp mg mb s.heap) (hh : A.handled = none) (hroom : A.depth < recursionLimit) (hz : x.length ≤ 2 ^ 18) (hx : ∀ c ∈ x.cps.toList, c < 256)
    (hQ : ∀ h' tk tk', Keeps s.heap h' → Q (.bytes (x.cps.toList.map fun c => c.toUInt8).toArray tk) { s with heap := h', toks := tk' }) :
    wpAny (model prog w) A (call (.ref 100) [.str x t]) Q E s := by
  refine enter (k := 25) (name := "_law_octets") (binds := [("text", .str x t)]) H (H.fn (100, "_law_octets", 25) (by decide)) hroom (fun _ _ _ => by rfl) (locs (by rfl)) (fun L cd h₁ F H₁ => ?_)
  show wpAny _ _ (execs (_ :: []) _) _ _ _
  refine wpAny_execs_cons (wpAny_Return_some ?_)
  refine Call_ (ldBlt H₁ (by rfl) ?_)
  refine Pv.callWith_type1 ?_
  refine args_cons ?_
  refine wpAny_ListComp_walk (fun _ => true) (fun v y => ∀ (c : Nat) u, v = Value.str ⟨#[c]⟩ u → ∃ k, y = Value.int (c : Int) k) (by decide) (by decide) rfl (by decide) rfl (ld F (by rfl) ?_)
  refine wpAny_pyIter_str (fun o St W hst => ?_)
  dsimp only
  refine ⟨_, _, _, _, _, St, rfl, W _ hh, ?_, hst, ?_, ?_, ?_⟩
  · show x.length ≤ _
    unfold sizeLine; omega
  · intro b hb
    rw [List.mem_singleton.mp hb, Heap.size_push]
    exact Nat.lt_succ_self _
  · refine ⟨fun C i v s₃ m₃ E' hP hn hm hk ht => wpAny_pure ⟨rfl, s₃.heap, s₃.toks, rfl, fun _ _ e => e⟩, fun C i v s₃ m₃ E' hP _ hn hm hk ht => ?_⟩
    have k3 : Keeps h₁ s₃.heap := fun b o' e => hk b o' (fun hb => by
      rw [List.mem_singleton.mp hb] at e
      exact absurd (Heap.lt_size e) (Nat.lt_irrefl _)) (Heap.get?_push_of_some _ e)
    have H₃ := H₁.keeps k3
    obtain ⟨c, u, hc, rfl⟩ := hP
    refine Call_ (ldBltE H₃ (by rfl) ?_)
    refine PyProof.Rows.callWith_builtin1 ?_
    refine args_cons ?_
    refine wpAny_Name ?_
    refine wpAny_loadName_local rfl rfl hn hm ?_
    refine args_nil ?_
    refine P.ord_of_char ?_
    refine ⟨fun c' u' e => ?_, s₃.heap, _, rfl, fun _ _ e => e⟩
    cases e
    exact ⟨_, rfl⟩
  · intro D h' tk ys vs hnew hl hpl hlen hP hF hk
    have k3 : Keeps h₁ h' := fun b o' e => hk b o' (fun hb => by
      rw [List.mem_singleton.mp hb] at e
      exact absurd (Heap.lt_size e) (Nat.lt_irrefl _)) (Heap.get?_push_of_some _ e)
    refine args_nil ?_
    have hF' : Paired (fun v y => ∀ (c : Nat) u, v = Value.str ⟨#[c]⟩ u → ∃ k, y = Value.int (c : Int) k) vs ys.toList := by
      have e : vs.filter (fun _ => true) = vs := List.filter_eq_self.mpr fun _ _ => rfl
      rw [e] at hF
      exact hF
    have hI := paired_ints (x := x) vs ys.toList x.cps.toList (by rw [hlen, Array.length_toList]) (fun j v hj => by
      obtain ⟨c, u, hc, e⟩ := hP j v hj
      exact ⟨c, u, by simpa using hc, e⟩) hF'
    have hlen2 := hI.length
    refine call_bytes_ints (vs := ys.toList) (by simpa using hl) hI (fun n hn => ?_) ?_ hh (fun h'' t'' k' hk'' => ?_)
    · obtain ⟨c, hc, rfl⟩ := List.mem_map.mp hn
      have := hx c hc
      exact ⟨Int.natCast_nonneg c, by show (c : Int) < 256; omega⟩
    · rw [hlen2, List.length_map, Array.length_toList]
      show x.length ≤ _
      unfold sizeLine; omega
    · have e : byteArr (x.cps.toList.map Int.ofNat) = (x.cps.toList.map fun c => c.toUInt8).toArray := by
        unfold byteArr
        rw [List.map_map]
        rfl
      rw [e]
      exact hQ _ _ _ (Keeps.trans F.keep (Keeps.trans k3 hk''))
end
end Mine

namespace Mine
open PySem PySem.W PyProof.Rows PySem.Calls

/-- the word of one row -/
def wordS (r nm : Str) : Str := ⟨(wordCs nm.cps.toList r.cps.toList).toArray⟩
def wordsOf (rows nms : List Str) : List Str := List.zipWith wordS rows nms

section
variable {prog : Program} {w : World} {A : Around} {E : Value → Shared → Prop} {s : Shared} {mg mb : Str → Option Value}

theorem sub_list {value slice : Expr} {pos : Pos} {env : Env} {Q : Value → Shared → Prop}
    (h : wpAny (model prog w) A (eval value env) (fun o s₁ => wpAny (model prog w) A (eval slice env) (fun i s₂ => ∃ t items k u x, o = .ref t ∧ i = .int k u ∧ s₂.heap.IsList t items ∧ 0 ≤ k ∧ k < 2 ^ 63 ∧ items[k.toNat]? = some x ∧ Q x s₂) E s₁) E s)
    (hs : ∀ t k u, subscripted slice false (.ref t) (.int k u) = operate [.ref t, .int k u] (getItem (.ref t) (.int k u)) := by intro _ _ _; with_unfolding_all rfl)
    (ht : ∀ o r, letTemporaryGo value o r = pure () := by intro _ _; rfl) :
    wpAny (model prog w) A (eval (.Subscript value slice pos) env) Q E s := by
  refine Subscript_ (wpAny_mono h (fun o s₁ h₁ => wpAny_mono h₁ (fun i s₂ h₂ => ?_) fun _ _ e => e) fun _ _ e => e)
  obtain ⟨t, items, k, u, x, rfl, rfl, hT, h0, h1, hx, hQ⟩ := h₂
  exact subscriptTail_builtin hT.typeIs list_getitem_lookup (wpAny_getItem_list hT h0 h1 hx hQ) (hs t k u) (ht _)

theorem range_iter {N : Nat} {t : Tok} {K : Value → Shared → Prop} (hN : N ≤ 2 ^ 20)
    (h : ∀ h' tk I, Keeps s.heap h' → IsRangeIter h' I (0 + ((0 : Nat) : Int) * 1) ((N : Int) - ((0 : Nat) : Int)) 1 → s.heap.get? I = none → s.heap.objs.size ≤ I → K (.ref I) { s with heap := h', toks := tk }) :
    wpAny (model prog w) A (call (.type "range") [.int N t]) (fun xv s₁ => wpAny (model prog w) A (pyIter xv) K E s₁) E s := by
  refine call_range_1 ?_
  refine wpAny_pyIter_range (IsRange.new ..) (small_one (by decide) (by decide) (by omega) (by omega)) ?_
  have hsz : Builtin.Range.rangeSize 0 N 1 = (N : Int) := by rw [rangeSize_one]; split <;> omega
  have hle : s.heap.objs.size ≤ (s.heap.push { cls := .type "range", data := .fields #[.int 0 s.toks, .int N t, .int 1 (s.toks + 1)] }).objs.size := by rw [Heap.size_push]; omega
  refine h _ _ _ (fun _ _ e => Heap.get?_push_of_some _ (Heap.get?_push_of_some _ e)) ?_ ?_ hle
  · have e1 : (0 + ((0 : Nat) : Int) * 1) = 0 := by simp
    have e2 : ((N : Int) - ((0 : Nat) : Int)) = Builtin.Range.rangeSize 0 N 1 := by rw [hsz]; simp
    rw [e1, e2]
    exact Heap.get?_push_size _ rfl
  · cases q : s.heap.get? (s.heap.push { cls := .type "range", data := .fields #[.int 0 s.toks, .int N t, .int 1 (s.toks + 1)] }).objs.size with
    | none => rfl
    | some o => exact absurd (Nat.lt_of_lt_of_le (Heap.lt_size q) hle) (Nat.lt_irrefl _)

theorem fr_but {h₀ h h' : Heap} {L D : Addr} {m : Str → Option Value} (F : Fr h₀ L h m) (hk : ∀ b o, b ≠ D → h.get? b = some o → h'.get? b = some o) (hD : D ≠ L) (hn : h₀.get? D = none) : Fr h₀ L h' m := by
  obtain ⟨o, es, ep, ho, r⟩ := F.ns
  exact ⟨⟨o, es, ep, hk L o (Ne.symm hD) ho, r⟩, fun b o' e => hk b o' (fun q => by rw [q, hn] at e; cases e) (F.keep b o' e), F.above⟩

/-- what a row of the law may be, however it came -/
structure RowFit (r : Str) : Prop where
  pos : 1 ≤ r.length
  len : r.length ≤ 2 ^ 13
  oct : ∀ c ∈ r.cps.toList, c < 256

theorem octets_back : ∀ {l : List Nat}, (∀ c ∈ l, c < 256) → (l.map fun c => c.toUInt8).map (·.toNat) = l
  | [], _ => rfl
  | c :: r, h => by
    rw [List.map_cons, List.map_cons, octets_back fun x hx => h x (.tail _ hx)]
    have : c.toUInt8.toNat = c := by
      show c % 256 = c
      exact Nat.mod_eq_of_lt (h c (.head _))
    rw [this]

theorem wordCs_len (nm cs : List Nat) : (wordCs nm cs).length ≤ 7 + nm.length + 3 * cs.length := by
  unfold wordCs
  have := enc_len cs
  simp only [List.length_append, List.length_cons, List.length_nil]
  omega

theorem wordsOf_at {rows nms : List Str} {i : Nat} {r n : Str} (h1 : rows[i]? = some r) (h2 : nms[i]? = some n) : (wordsOf rows nms)[i]? = some (wordS r n) := by
  unfold wordsOf
  rw [List.getElem?_zipWith, h1, h2]

set_option maxHeartbeats 4000000 in
theorem law_line_spec {lr ln : Addr} {ri ni : Array Value} {rows nms : List Str} {Q : Value → Shared → Prop} (H : Hp mg mb s.heap) (hh : A.handled = none) (hroom : A.depth + 1 < recursionLimit)
    (hr : s.heap.IsList lr ri) (hrt : TextsAre ri rows) (hn : s.heap.IsList ln ni) (hnt : TextsAre ni nms) (hlen : rows.length ≤ 4) (hle : rows.length ≤ nms.length) (hrow : ∀ r ∈ rows, RowFit r) (hnm : ∀ n ∈ nms, n.length ≤ 2 ^ 10)
    (hQ : ∀ h' tk tk', Keeps s.heap h' → Q (.str (Txt.join ⟨#[32]⟩ (wordsOf rows nms)) tk) { s with heap := h', toks := tk' }) :
    wpAny (model prog w) A (call (.ref 107) [.ref lr, .ref ln]) Q E s := by
  refine enter (k := 26) (name := "_law_line") (binds := [("rows", .ref lr), ("names", .ref ln)]) H (H.fn (107, "_law_line", 26) (by decide)) (by omega) (fun _ _ _ => by rfl) (locs (by rfl)) (fun L cd h₁ F H₁ => ?_)
  show wpAny _ _ (execs (_ :: _ :: _ :: []) _) _ _ _
  refine wpAny_execs_cons ?_
  refine wpAny_Assign_Name ?_
  refine wpAny_List ?_
  refine wpAny_items_nil ?_
  refine ⟨by show 0 ≤ sizeLine; decide, ?_⟩
  have FD : Fr s.heap L (h₁.push { cls := .type "list", dict := none, data := .seq ([] : List Value).toArray }) _ := F.push _
  dsimp only
  have hDL : h₁.objs.size ≠ L := Nat.ne_of_gt F.ns.lt
  have hDn : s.heap.get? h₁.objs.size = none := by
    cases q : s.heap.get? h₁.objs.size with
    | none => rfl
    | some o => exact absurd (Heap.lt_size (F.keep _ _ q)) (Nat.lt_irrefl _)
  refine stS FD (fun h' F' hs' => ?_)
  dsimp only
  have hD' : h'.PlainList h₁.objs.size (strValues []).toArray := by
    have := Heap.get?_push_size h₁ (o := { cls := .type "list", dict := none, data := .seq ([] : List Value).toArray }) rfl
    exact ⟨_, hs'.extBut _ _ hDL this⟩
  generalize h₁.objs.size = D at hDL hDn F' hD' ⊢
  have H' := H.keeps F'.keep
  have hr' := isList_keeps hr F'.keep
  refine wpAny_execs_cons ?_
  refine wpAny_For ?_
  refine Call_ ?_
  refine ldBlt H' (by rfl) ?_
  refine Pv.callWith_type1 ?_
  refine args_cons ?_
  refine Call_ ?_
  refine ldBlt H' (by rfl) ?_
  refine PyProof.Rows.callWith_builtin1 ?_
  refine args_cons ?_
  refine ld F' (by rfl) ?_
  refine args_nil ?_
  refine call_len_list hr' (by rw [hrt.1]; omega) ?_
  refine args_nil ?_
  rw [hrt.1]
  refine range_iter (by omega) (fun hi tki I hki hI hIn hIle => ?_)
  dsimp only at hki hIn hIle ⊢
  have Fi : Fr s.heap L hi _ := F'.after hki
  have hIL : I ≠ L := fun e => by
    have := F'.ns.lt
    rw [← e] at this
    exact absurd (Nat.lt_of_lt_of_le this hIle) (Nat.lt_irrefl _)
  have hID : I ≠ D := fun e => by
    obtain ⟨n, ho⟩ := hD'
    rw [← e] at ho
    exact absurd (Nat.lt_of_lt_of_le (Heap.lt_size ho) hIle) (Nat.lt_irrefl _)
  have hIs : s.heap.get? I = none := by
    cases q : s.heap.get? I with
    | none => rfl
    | some o => have := F'.keep _ _ q; rw [hIn] at this; cases this
  refine forLoop_walk (h₀ := s.heap) (Walks.range (prog := prog) (w := w) (A := A.deeper (envOf "_law_line" (fnScope 26) L 107 cd)) hh I 0 1 rows.length) (fun b hb => ?_) (fun b hb => ?_)
    (fun i m' h => m' "rows" = some (.ref lr) ∧ m' "names" = some (.ref ln) ∧ m' "words" = some (.ref D) ∧ ∃ l, h.PlainList D (strValues l).toArray ∧ l.map (·.1) = (wordsOf rows nms).take i)
    (fun i m ha hb hJ hk => ?_) Fi hI ⟨rfl, rfl, rfl, [], hD'.at fun o e => hki D o e, rfl⟩ (fun i v m' ha hb tk hi' hP hJ hsb Fx => ?_) (fun hz tk m' Fz hJ => ?_)
  · rw [List.mem_singleton.mp hb]; exact hIL
  · rw [List.mem_singleton.mp hb]; exact hIs
  · obtain ⟨a1, a2, a3, l, hl, hm⟩ := hJ
    exact ⟨a1, a2, a3, l, hl.at fun o e => hk D o (fun q => hID (List.mem_singleton.mp q).symm) e, hm⟩
  · obtain ⟨a1, a2, a3, l, hl, hm⟩ := hJ
    obtain ⟨u, rfl⟩ := hP
    have ek : (0 + (i : Int) * 1) = (i : Int) := by omega
    rw [ek] at Fx
    have b1 : (fun y => if y = Str.ofString "k" then some (Value.int i u) else m' y) "rows" = some (.ref lr) := a1
    have b2 : (fun y => if y = Str.ofString "k" then some (Value.int i u) else m' y) "names" = some (.ref ln) := a2
    have b3 : (fun y => if y = Str.ofString "k" then some (Value.int i u) else m' y) "words" = some (.ref D) := a3
    have hlb : hb.PlainList D (strValues l).toArray := hl.at fun o e => hsb.extBut D o hDL e
    have hiN : i < nms.length := by omega
    obtain ⟨tr, hri⟩ := hrt.2 i (rows[i]) (List.getElem?_eq_getElem hi')
    obtain ⟨tn, hni⟩ := hnt.2 i (nms[i]) (List.getElem?_eq_getElem hiN)
    have hfit : RowFit (rows[i]) := hrow _ (List.getElem_mem _)
    have hnfit : (nms[i]).length ≤ 2 ^ 10 := hnm _ (List.getElem_mem _)
    have hat := wordsOf_at (List.getElem?_eq_getElem hi') (List.getElem?_eq_getElem hiN)
    generalize rows[i] = r at hri hfit hat
    generalize nms[i] = nm at hni hnfit hat
    have Hx := H.keeps Fx.keep
    obtain ⟨nl, hol⟩ := id hlb
    refine wpAny_execs_cons (wpAny_Expr ?_)
    refine MethodCall_ ?_
    refine ld Fx b3 ?_
    refine getMethod_list_append hol rfl rfl ?_
    refine PyProof.Rows.callWith_method1 (args_cons ?_)
    obtain ⟨oe, pme, cde, doce, de, ode, dve, ne, hoe, hde, hcde, hode, hdde⟩ := Hx.he
    obtain ⟨oo, pmo, cdo, doco, hoo, hdo, hcdo, hco⟩ := Hx.fn (100, "_law_octets", 25) (by decide)
    refine Call_ (ldOwn Hx (by rfl) ?_)
    refine callWith_def hde (args_cons ?_)
    refine Call_ (ldOwn Hx (by rfl) ?_)
    refine callWith_def hdo (args_cons ?_)
    refine sub_list ?_
    refine ld Fx b1 ?_
    refine ld Fx (by rfl) ⟨lr, ri, i, u, _, rfl, rfl, isList_keeps hr Fx.keep, by omega, by omega, hri, ?_⟩
    refine args_nil ⟨hoo, ?_⟩
    have hle3 := hfit.len
    refine law_octets_spec Hx hh (by show A.depth + 1 < _; omega) (by omega) hfit.oct (fun h3 t3 k3 hk3 => ?_)
    dsimp only at hk3 ⊢
    have F3 := Fx.after hk3
    have H3 := Hx.keeps hk3
    refine args_cons ?_
    refine sub_list ?_
    refine ld F3 b2 ?_
    refine ld F3 (by rfl) ⟨ln, ni, i, u, _, rfl, rfl, isList_keeps hn F3.keep, by omega, by omega, hni, ?_⟩
    refine args_nil ⟨hk3 _ _ hoe, ?_⟩
    obtain ⟨c, cs, hcs⟩ : ∃ c cs, (r.cps.toList.map fun c => c.toUInt8) = c :: cs := by
      cases e : (r.cps.toList.map fun c => c.toUInt8) with
      | nil =>
        have h0 := congrArg List.length e
        rw [List.length_map, Array.length_toList] at h0
        have h1 : r.cps.size = 0 := h0
        have h2 : 1 ≤ r.cps.size := hfit.pos
        omega
      | cons c cs => exact ⟨c, cs, rfl⟩
    have hback : (c :: cs).map (·.toNat) = r.cps.toList := by rw [← hcs]; exact octets_back hfit.oct
    have hcl : (c :: cs).length = r.length := by rw [← hcs, List.length_map]; exact Array.length_toList
    rw [hcs]
    refine header_encode_spec H3 (by show A.depth + 1 < _; omega) (by rw [hcl]; omega) (by omega) (fun h4 t4 k4 hk4 => ?_)
    dsimp only at hk4 ⊢
    rw [hback]
    refine args_nil ?_
    have hl4 : h4.PlainList D (strValues l).toArray := hlb.at fun o e => hk4 D o (hk3 D o e)
    have hml : l.length = i := by
      have := congrArg List.length hm
      rw [List.length_map, List.length_take] at this
      have hwl : (wordsOf rows nms).length = rows.length := by
        unfold wordsOf
        rw [List.length_zipWith]
        omega
      omega
    refine wpAny_list_append_plain hl4 (fun h5 hl5 hs5 => ?_) (by rw [strValues_len, hml]; unfold sizeLine; omega)
    dsimp only
    rw [strValues_push] at hl5
    have F5 : Fr s.heap L h5 _ := fr_but (F3.after hk4) (fun b o hb e => hs5.extBut b o hb e) hDL hDn
    refine wpAny_execs_nil ⟨h5, _, _, rfl, rfl, F5, ⟨b1, b2, b3, l ++ [(wordS r nm, t4)], hl5, ?_⟩, fun b hb o e => ?_⟩
    · rw [List.map_append, hm, List.take_add_one, hat]
      rfl
    · rw [List.mem_singleton.mp hb] at e ⊢
      exact hs5.extBut I o hID (hk4 I o (hk3 I o e))

  · obtain ⟨a1, a2, a3, l, hl, hm⟩ := hJ
    have hwl : (wordsOf rows nms).length = rows.length := by
      unfold wordsOf
      rw [List.length_zipWith]
      omega
    have hm' : l.map (·.1) = wordsOf rows nms := by rw [hm]; exact List.take_of_length_le (by omega)
    have e32 : Str.ofString " " = ⟨#[32]⟩ := by decide +kernel
    dsimp only
    refine wpAny_execs_cons ?_
    refine wpAny_Return_some ?_
    refine MethodCall_ ?_
    refine Constant_str ?_
    with_reducible refine gmJoin ?_
    refine PyProof.Rows.callWith_method1 ?_
    refine args_cons ?_
    refine ld Fz a3 ?_
    refine args_nil ?_
    rw [e32]
    refine SC.join hl.isList hm' (joinOk_of ?_) (fun t' k => hQ _ _ _ Fz.keep)
    have := StrLaws.sumLen_le (B := 7 + 2 ^ 10 + 3 * 2 ^ 13) (wordsOf rows nms) (fun y hy => ?_)
    · have e1 : (⟨#[32]⟩ : Str).length = 1 := rfl
      rw [hwl] at this ⊢
      have h2 : rows.length * (7 + 2 ^ 10 + 3 * 2 ^ 13) ≤ 4 * (7 + 2 ^ 10 + 3 * 2 ^ 13) := Nat.mul_le_mul_right _ hlen
      rw [e1]
      omega
    · unfold wordsOf at hy
      obtain ⟨k, hk⟩ := List.getElem?_of_mem hy
      rw [List.getElem?_zipWith] at hk
      cases h1 : rows[k]? with
      | none => rw [h1] at hk; cases hk
      | some r =>
        cases h2 : nms[k]? with
        | none => rw [h1, h2] at hk; cases hk
        | some nm =>
          rw [h1, h2] at hk
          cases hk
          have f1 := (hrow r (List.mem_of_getElem? h1)).len
          have f2 := hnm nm (List.mem_of_getElem? h2)
          show (wordCs nm.cps.toList r.cps.toList).toArray.size ≤ _
          rw [List.size_toArray]
          have := wordCs_len nm.cps.toList r.cps.toList
          have e1 : nm.cps.toList.length = nm.length := Array.length_toList
          have e2 : r.cps.toList.length = r.length := Array.length_toList
          omega
end
end Mine

namespace Mine
open PySem PySem.W PyProof.Rows PySem.Calls

theorem cut_uniq {c : Nat} : ∀ {a b r r' : List Nat}, c ∉ a → c ∉ b → a ++ c :: r = b ++ c :: r' → a = b ∧ r = r'
  | [], [], _, _, _, _, e => ⟨rfl, (List.cons.inj e).2⟩
  | [], y :: b, _, _, _, hb, e => absurd (.head _ : y ∈ y :: b) (by
      have : c = y := (List.cons.inj e).1
      rw [← this] at hb ⊢
      exact hb)
  | x :: a, [], _, _, ha, _, e => absurd (.head _ : x ∈ x :: a) (by
      have : x = c := (List.cons.inj e).1
      rw [this] at ha ⊢
      exact ha)
  | x :: a, y :: b, _, _, ha, hb, e => by
    obtain ⟨h1, h2⟩ := List.cons.inj e
    obtain ⟨h3, h4⟩ := cut_uniq (a := a) (b := b) (fun m => ha (.tail _ m)) (fun m => hb (.tail _ m)) h2
    exact ⟨by rw [h1, h3], h4⟩

open PySem.Builtin.Str in
theorem join_two (c : Nat) (p q : Str) (r : List Str) : (Str.join ⟨#[c]⟩ (p :: q :: r)).cps.toList = p.cps.toList ++ c :: (Str.join ⟨#[c]⟩ (q :: r)).cps.toList := by
  show (p ++ ⟨#[c]⟩ ++ Str.join ⟨#[c]⟩ (q :: r)).cps.toList = _
  simp only [Str.cps_append, Array.toList_append]
  simp

open PySem.Builtin.Str in
theorem join_inj (c : Nat) : ∀ (ps qs : List Str), ps ≠ [] → qs ≠ [] → (∀ p ∈ ps, c ∉ p.cps.toList) → (∀ q ∈ qs, c ∉ q.cps.toList) → (Str.join ⟨#[c]⟩ ps).cps.toList = (Str.join ⟨#[c]⟩ qs).cps.toList → ps = qs
  | [], _, h, _, _, _, _ => absurd rfl h
  | _, [], _, h, _, _, _ => absurd rfl h
  | [p], [q], _, _, _, _, e => by
    have e' : p.cps.toList = q.cps.toList := e
    rw [Str.ext' (Array.toList_inj.mp e')]
  | [p], q :: q' :: r, _, _, hp, _, e => absurd (show c ∈ p.cps.toList by
      rw [join_two] at e
      have e' : p.cps.toList = q.cps.toList ++ c :: (Str.join ⟨#[c]⟩ (q' :: r)).cps.toList := e
      rw [e']; simp) (hp p (.head _))
  | p :: p' :: r, [q], _, _, _, hq, e => absurd (show c ∈ q.cps.toList by
      rw [join_two] at e
      have e' : q.cps.toList = p.cps.toList ++ c :: (Str.join ⟨#[c]⟩ (p' :: r)).cps.toList := e.symm
      rw [e']; simp) (hq q (.head _))
  | p :: p' :: r, q :: q' :: r', _, _, hp, hq, e => by
    rw [join_two, join_two] at e
    obtain ⟨h1, h2⟩ := cut_uniq (hp p (.head _)) (hq q (.head _)) e
    rw [Str.ext' (Array.toList_inj.mp h1), join_inj c (p' :: r) (q' :: r') (by simp) (by simp) (fun x hx => hp x (.tail _ hx)) (fun x hx => hq x (.tail _ hx)) h2]

theorem split_ne (x : Str) (c : Nat) : Txt.split x ⟨#[c]⟩ ≠ [] := by
  unfold Txt.split
  split
  · exact fun e => by cases e
  · split
    · exact fun e => by cases e
    · rw [StrLaws.partsBetween_eq]
      obtain ⟨p, r, e⟩ := StrLaws.partsFrom_ne x (⟨#[c]⟩ : Str).length 0 (Builtin.Str.occurrences x ⟨#[c]⟩ 0 x.length (x.length + 1))
      rw [e]
      exact fun e => by cases e

/-- what was joined comes back, where no part holds the sign between -/
theorem split_join {c : Nat} {ps : List Str} (hne : ps ≠ []) (hf : ∀ p ∈ ps, c ∉ p.cps.toList) : Txt.split (Txt.join ⟨#[c]⟩ ps) ⟨#[c]⟩ = ps := by
  have e : Txt.join ⟨#[c]⟩ ps = Str.join ⟨#[c]⟩ ps := StrLaws.glued_eq_join _ _
  refine join_inj c _ _ (split_ne _ _) hne (StrLaws.split_free _ c) hf ?_
  rw [StrLaws.join_split, e]

/-- a row behind the header map -/
def encS (r : Str) : Str := ⟨(r.cps.toList.flatMap enc1).toArray⟩
def partsOf (r nm : Str) : List Str := [⟨#[61]⟩, nm, ⟨#[113]⟩, encS r, ⟨#[61]⟩]

theorem word_join (r nm : Str) : wordS r nm = Txt.join ⟨#[63]⟩ (partsOf r nm) := by
  have e : Txt.join ⟨#[63]⟩ (partsOf r nm) = Str.join ⟨#[63]⟩ (partsOf r nm) := StrLaws.glued_eq_join _ _
  rw [e]
  refine Str.ext' (Array.toList_inj.mp ?_)
  unfold partsOf
  rw [join_two, join_two, join_two, join_two]
  show (wordCs nm.cps.toList r.cps.toList).toArray.toList = [61] ++ 63 :: (nm.cps.toList ++ 63 :: ([113] ++ 63 :: ((r.cps.toList.flatMap enc1).toArray.toList ++ 63 :: [61])))
  unfold wordCs
  simp

theorem enc1_safe : ∀ c : Fin 256, (enc1 c.val).all (fun x => safeCs.contains x) = true := by decide +kernel
theorem enc_safe {r : Str} (h : ∀ c ∈ r.cps.toList, c < 256) : ∀ x ∈ (encS r).cps.toList, x ∈ safeCs := fun x hx => by
  have hx' : x ∈ r.cps.toList.flatMap enc1 := hx
  obtain ⟨c, hc, hxc⟩ := List.mem_flatMap.mp hx'
  have := List.all_eq_true.mp (enc1_safe ⟨c, h c hc⟩) x hxc
  exact List.contains_iff_mem.mp this
theorem safe_not : (32 ∉ safeCs) ∧ (63 ∉ safeCs) := by decide +kernel

theorem parts_free {r nm : Str} (h : ∀ c ∈ r.cps.toList, c < 256) (hn : 63 ∉ nm.cps.toList) : ∀ p ∈ partsOf r nm, 63 ∉ p.cps.toList := fun p hp => by
  unfold partsOf at hp
  simp only [List.mem_cons, List.not_mem_nil, or_false] at hp
  rcases hp with rfl | rfl | rfl | rfl | rfl
  · decide
  · exact hn
  · decide
  · exact fun m => safe_not.2 (enc_safe h _ m)
  · decide

theorem word_blank {r nm : Str} (h : ∀ c ∈ r.cps.toList, c < 256) (hn : 32 ∉ nm.cps.toList) : 32 ∉ (wordS r nm).cps.toList := fun m => by
  have m' : 32 ∈ wordCs nm.cps.toList r.cps.toList := m
  unfold wordCs at m'
  simp only [List.mem_append, List.mem_cons, List.not_mem_nil, or_false] at m'
  rcases m' with (((h1 | h1) | h1) | h1) | h1
  · omega
  · exact hn h1
  · omega
  · exact safe_not.1 (enc_safe h _ (show 32 ∈ (encS r).cps.toList from h1))
  · omega

theorem split_word {r nm : Str} (h : ∀ c ∈ r.cps.toList, c < 256) (hn : 63 ∉ nm.cps.toList) : Txt.split (wordS r nm) ⟨#[63]⟩ = partsOf r nm := by
  rw [word_join]
  exact split_join (by unfold partsOf; simp) (parts_free h hn)

theorem strAt {l : List (Str × Tok)} {i : Nat} {x : Str} (h : (l.map (·.1))[i]? = some x) : ∃ u : Tok, (strValues l).toArray[i]? = some (Value.str x u) := by
  rw [List.getElem?_map] at h
  cases e : l[i]? with
  | none => rw [e] at h; cases h
  | some p =>
    rw [e] at h
    cases h
    refine ⟨p.2, ?_⟩
    unfold strValues
    simp [e]
end Mine

namespace Mine
open PySem PySem.W PyProof.Rows PySem.Calls

section
variable {prog : Program} {w : World} {A : Around} {E : Value → Shared → Prop} {s : Shared} {mg mb : Str → Option Value}

theorem or_no {M : Model} {x rest pos whole} {env : Env} {Q : Bool → Shared → Prop}
    (h : wpAny M A (isTrue x env (eval x env)) (fun c s' => c = false ∧ wpAny M A (isTrue (.BoolOp .Or rest pos) env whole) Q E s') E s) :
    wpAny M A (isTrue (.BoolOp .Or (x :: rest) pos) env whole) Q E s :=
  isTrue_or (wpAny_mono h (fun c s' h' => by obtain ⟨rfl, h2⟩ := h'; exact h2) fun _ _ e => e)

theorem if_no {test body orelse pos} {env : Env} {Q : Flow → Shared → Prop}
    (h : wpAny (model prog w) A (isTrue test env (eval test env)) (fun b s₂ => b = false ∧ wpAny (model prog w) A (execs orelse env) Q E s₂) E s) :
    wpAny (model prog w) A (exec (.If test body orelse pos) env) Q E s :=
  wpAny_If (wpAny_mono h (fun c s' h' => by obtain ⟨rfl, h2⟩ := h'; exact h2) fun _ _ e => e)

/-- the list of strings that a split makes, with all that stood before it -/
theorem split_all {h₀ : Heap} {L : Addr} {m : Str → Option Value} {x : Str} {c : Nat} {t u : Tok} {kept : List (Addr × Obj)} {Q : Value → Shared → Prop} (F : Fr h₀ L s.heap m)
    (hk : ∀ p ∈ kept, s.heap.get? p.1 = some p.2 ∧ p.1 ≠ L ∧ h₀.get? p.1 = none)
    (h : ∀ D l h' k, l.map (·.1) = Txt.split x ⟨#[c]⟩ → Fr h₀ L h' m → h'.IsList D (strValues l).toArray → D ≠ L → h₀.get? D = none → (∀ p ∈ kept, h'.get? p.1 = some p.2) → Q (.ref D) { s with heap := h', toks := k })
    (hsz : x.length ≤ 2 ^ 20) : wpAny (model prog w) A (call (.builtin "str.split") [.str x t, .str ⟨#[c]⟩ u]) Q E s :=
  splitN1 (news := kept) F hk rfl (fun l h' k e F' N => h _ l h' k e F' ⟨_, (N _ (.head _)).1, rfl, _, rfl⟩ (N _ (.head _)).2.1 (N _ (.head _)).2.2 fun p hp => (N p (.tail _ hp)).1)
    (by unfold sizeLine; omega)

set_option maxHeartbeats 4000000 in
theorem law_scan_spec {lr ln : Addr} {ri ni : Array Value} {rows nms : List Str} {t : Tok} {Q : Value → Shared → Prop} (H : Hp mg mb s.heap) (hh : A.handled = none) (hroom : A.depth + 3 < recursionLimit)
    (hr : s.heap.IsList lr ri) (hrt : TextsAre ri rows) (hn : s.heap.IsList ln ni) (hnt : TextsAre ni nms) (hpos : 1 ≤ rows.length) (hlen : rows.length ≤ 4) (hle : rows.length ≤ nms.length) (hrow : ∀ r ∈ rows, RowFit r) (hnm : ∀ n ∈ nms, n.length ≤ 2 ^ 10)
    (hfree : ∀ n ∈ nms, 32 ∉ n.cps.toList ∧ 63 ∉ n.cps.toList)
    (hQ : ∀ h' tk', Keeps s.heap h' → Q (.bool true) { s with heap := h', toks := tk' }) :
    wpAny (model prog w) A (call (.ref 114) [.str (Txt.join ⟨#[32]⟩ (wordsOf rows nms)) t, .ref lr, .ref ln]) Q E s := by
  refine enter (k := 27) (name := "_law_scan") (binds := [("line", .str (Txt.join ⟨#[32]⟩ (wordsOf rows nms)) t), ("rows", .ref lr), ("names", .ref ln)]) H (H.fn (114, "_law_scan", 27) (by decide)) (by omega) (fun _ _ _ => by rfl) (locs (by rfl)) (fun L cd h₁ F H₁ => ?_)
  show wpAny _ _ (execs (_ :: _ :: _ :: _ :: []) _) _ _ _
  have e32 : Str.ofString " " = ⟨#[32]⟩ := by decide +kernel
  have e63 : Str.ofString "?" = ⟨#[63]⟩ := by decide +kernel
  have hwl : (wordsOf rows nms).length = rows.length := by
    unfold wordsOf
    rw [List.length_zipWith]
    omega
  have hword : ∀ y ∈ wordsOf rows nms, ∃ r nm, y = wordS r nm ∧ r ∈ rows ∧ nm ∈ nms := fun y hy => by
    unfold wordsOf at hy
    obtain ⟨k, hk⟩ := List.getElem?_of_mem hy
    rw [List.getElem?_zipWith] at hk
    cases h1 : rows[k]? with
    | none => rw [h1] at hk; cases hk
    | some r =>
      cases h2 : nms[k]? with
      | none => rw [h1, h2] at hk; cases hk
      | some nm =>
        rw [h1, h2] at hk
        cases hk
        exact ⟨r, nm, rfl, List.mem_of_getElem? h1, List.mem_of_getElem? h2⟩
  have hwlen : ∀ y ∈ wordsOf rows nms, y.length ≤ 7 + 2 ^ 10 + 3 * 2 ^ 13 := fun y hy => by
    obtain ⟨r, nm, rfl, h1, h2⟩ := hword y hy
    have f1 := (hrow r h1).len
    have f2 := hnm nm h2
    show (wordCs nm.cps.toList r.cps.toList).toArray.size ≤ _
    rw [List.size_toArray]
    have := wordCs_len nm.cps.toList r.cps.toList
    have e1 : nm.cps.toList.length = nm.length := Array.length_toList
    have e2 : r.cps.toList.length = r.length := Array.length_toList
    omega
  have hlineLen : (Txt.join ⟨#[32]⟩ (wordsOf rows nms)).length ≤ 2 ^ 20 := by
    have e : Txt.join ⟨#[32]⟩ (wordsOf rows nms) = Str.join ⟨#[32]⟩ (wordsOf rows nms) := StrLaws.glued_eq_join _ _
    rw [e]
    have h1 := StrLaws.join_length_le ⟨#[32]⟩ (wordsOf rows nms)
    have h2 := StrLaws.sumLen_le (B := 7 + 2 ^ 10 + 3 * 2 ^ 13) (wordsOf rows nms) hwlen
    have e1 : (⟨#[32]⟩ : Str).length = 1 := rfl
    rw [e1, hwl] at h1
    rw [hwl] at h2
    have h3 : rows.length * (7 + 2 ^ 10 + 3 * 2 ^ 13) ≤ 4 * (7 + 2 ^ 10 + 3 * 2 ^ 13) := Nat.mul_le_mul_right _ hlen
    omega
  have hsplit : Txt.split (Txt.join ⟨#[32]⟩ (wordsOf rows nms)) ⟨#[32]⟩ = wordsOf rows nms := split_join (fun e => by rw [e] at hwl; simp at hwl; omega) (fun p hp => by
    obtain ⟨r, nm, rfl, h1, h2⟩ := hword p hp
    exact word_blank (hrow r h1).oct (hfree nm h2).1)
  refine wpAny_execs_cons ?_
  refine wpAny_Assign_Name ?_
  refine MethodCall_ ?_
  refine ld F (by rfl) ?_
  with_reducible refine gmSplit ?_
  refine PyProof.Rows.callWith_method1 ?_
  refine args_cons ?_
  refine Constant_str ?_
  refine args_nil ?_
  rw [e32]
  refine split_all (kept := []) F (fun p hp => nomatch hp) (fun D l h2 k2 hl F2 hD hDL hDn _ => ?_) hlineLen
  rw [hsplit] at hl
  dsimp only
  refine stS F2 (fun h3 F3 hs3 => ?_)
  dsimp only
  have hD3 : h3.IsList D (strValues l).toArray := by
    obtain ⟨o, ho, r⟩ := hD
    exact ⟨o, hs3.extBut _ _ hDL ho, r⟩
  have hll : l.length = rows.length := by
    have := congrArg List.length hl
    rw [List.length_map] at this
    omega
  have H3 := H.keeps F3.keep
  have hr3 := isList_keeps hr F3.keep
  refine wpAny_execs_cons ?_
  refine if_no ?_
  refine wpAny_isTrue_Compare1 ?_
  refine Call_ ?_
  refine ldBlt H3 (by rfl) ?_
  refine PyProof.Rows.callWith_builtin1 ?_
  refine args_cons ?_
  refine ld F3 (by rfl) ?_
  refine args_nil ?_
  refine call_len_list hD3 (by rw [strValues_len]; omega) ?_
  refine Call_ ?_
  refine ldBlt H3 (by rfl) ?_
  refine PyProof.Rows.callWith_builtin1 ?_
  refine args_cons ?_
  refine ld F3 (by rfl) ?_
  refine args_nil ?_
  refine call_len_list hr3 (by rw [hrt.1]; omega) ?_
  refine PyProof.Rows.ne_int (wpAny_truthy_bool ⟨?_, ?_⟩)
  · rw [strValues_len, hrt.1, hll]
    simp
  refine wpAny_execs_nil ?_
  dsimp only
  refine wpAny_execs_cons ?_
  refine wpAny_For ?_
  refine Call_ ?_
  refine ldBlt H3 (by rfl) ?_
  refine Pv.callWith_type1 ?_
  refine args_cons ?_
  refine Call_ ?_
  refine ldBlt H3 (by rfl) ?_
  refine PyProof.Rows.callWith_builtin1 ?_
  refine args_cons ?_
  refine ld F3 (by rfl) ?_
  refine args_nil ?_
  refine call_len_list hr3 (by rw [hrt.1]; omega) ?_
  refine args_nil ?_
  rw [hrt.1]
  refine range_iter (by omega) (fun hi tki I hki hI hIn hIle => ?_)
  dsimp only at hki hIn hIle ⊢
  have Fi : Fr s.heap L hi _ := F3.after hki
  have hIL : I ≠ L := fun e => by
    have := F3.ns.lt
    rw [← e] at this
    exact absurd (Nat.lt_of_lt_of_le this hIle) (Nat.lt_irrefl _)
  have hID : I ≠ D := fun e => by
    obtain ⟨o, ho, _⟩ := hD3
    rw [← e] at ho
    exact absurd (Nat.lt_of_lt_of_le (Heap.lt_size ho) hIle) (Nat.lt_irrefl _)
  have hIs : s.heap.get? I = none := by
    cases q : s.heap.get? I with
    | none => rfl
    | some o => have := F3.keep _ _ q; rw [hIn] at this; cases this
  refine forLoop_walk (h₀ := s.heap) (Walks.range (prog := prog) (w := w) (A := A.deeper (envOf "_law_scan" (fnScope 27) L 114 cd)) hh I 0 1 rows.length) (fun b hb => ?_) (fun b hb => ?_)
    (fun i m' h => m' "rows" = some (.ref lr) ∧ m' "names" = some (.ref ln) ∧ m' "words" = some (.ref D) ∧ h.IsList D (strValues l).toArray)
    (fun i m ha hb hJ hk => ?_) Fi hI ⟨rfl, rfl, rfl, ?_⟩ (fun i v m' ha hb tk hi' hP hJ hsb Fx => ?_) (fun hz tk m' Fz hJ => ?_)
  · rw [List.mem_singleton.mp hb]; exact hIL
  · rw [List.mem_singleton.mp hb]; exact hIs
  · obtain ⟨a1, a2, a3, o, ho, r⟩ := hJ
    exact ⟨a1, a2, a3, o, hk D o (fun q => hID (List.mem_singleton.mp q).symm) ho, r⟩
  · exact isList_keeps hD3 hki
  · obtain ⟨a1, a2, a3, hDa⟩ := hJ
    obtain ⟨u, rfl⟩ := hP
    have ek : (0 + (i : Int) * 1) = (i : Int) := by omega
    rw [ek] at Fx
    have b1 : (fun y => if y = Str.ofString "k" then some (Value.int i u) else m' y) "rows" = some (.ref lr) := a1
    have b2 : (fun y => if y = Str.ofString "k" then some (Value.int i u) else m' y) "names" = some (.ref ln) := a2
    have b3 : (fun y => if y = Str.ofString "k" then some (Value.int i u) else m' y) "words" = some (.ref D) := a3
    have b4 : (fun y => if y = Str.ofString "k" then some (Value.int i u) else m' y) "k" = some (Value.int i u) := rfl
    generalize (fun y => if y = Str.ofString "k" then some (Value.int i u) else m' y) = mx at Fx b1 b2 b3 b4
    have hDb : hb.IsList D (strValues l).toArray := by
      obtain ⟨o, ho, r⟩ := hDa
      exact ⟨o, hsb.extBut _ _ hDL ho, r⟩
    have hiN : i < nms.length := by omega
    obtain ⟨tr, hri⟩ := hrt.2 i (rows[i]) (List.getElem?_eq_getElem hi')
    obtain ⟨tn, hni⟩ := hnt.2 i (nms[i]) (List.getElem?_eq_getElem hiN)
    have hfit : RowFit (rows[i]) := hrow _ (List.getElem_mem _)
    have hf63 : 63 ∉ (nms[i]).cps.toList := (hfree _ (List.getElem_mem _)).2
    have hwl2 : (wordS (rows[i]) (nms[i])).length ≤ 2 ^ 20 := by
      have := hwlen _ (List.mem_of_getElem? (wordsOf_at (List.getElem?_eq_getElem hi') (List.getElem?_eq_getElem hiN)))
      omega
    have hat := wordsOf_at (List.getElem?_eq_getElem hi') (List.getElem?_eq_getElem hiN)
    generalize rows[i] = r at hri hfit hat hwl2
    generalize nms[i] = nm at hni hf63 hat hwl2
    rw [← hl] at hat
    obtain ⟨uw, hwi⟩ := strAt hat
    have Hx := H.keeps Fx.keep
    obtain ⟨oD, hoD, rD⟩ := id hDb
    refine wpAny_execs_cons ?_
    refine wpAny_Assign_Name ?_
    refine MethodCall_ ?_
    refine sub_list ?_
    refine ld Fx b3 ?_
    refine ld Fx b4 ⟨D, _, i, u, _, rfl, rfl, hDb, by omega, by omega, hwi, ?_⟩
    with_reducible refine gmSplit ?_
    refine PyProof.Rows.callWith_method1 ?_
    refine args_cons ?_
    refine Constant_str ?_
    refine args_nil ?_
    rw [e63]
    refine split_all (kept := (D, oD) :: (hb.get? I).toList.map fun o => (I, o)) Fx (fun p hp => ?_) (fun P l2 h4 k4 hl2 F4 hP4 hPL hPn hkept => ?_) hwl2
    · rcases List.mem_cons.mp hp with rfl | hp
      · exact ⟨hoD, hDL, hDn⟩
      · obtain ⟨o, ho, rfl⟩ := List.mem_map.mp hp
        exact ⟨Option.mem_toList.mp ho, hIL, hIs⟩
    rw [split_word hfit.oct hf63] at hl2
    dsimp only
    refine stS F4 (fun h5 F5 hs5 => ?_)
    dsimp only
    have c1 : (fun y => if y = Str.ofString "parts" then some (Value.ref P) else mx y) "rows" = some (.ref lr) := b1
    have c2 : (fun y => if y = Str.ofString "parts" then some (Value.ref P) else mx y) "names" = some (.ref ln) := b2
    have c3 : (fun y => if y = Str.ofString "parts" then some (Value.ref P) else mx y) "words" = some (.ref D) := b3
    have c4 : (fun y => if y = Str.ofString "parts" then some (Value.ref P) else mx y) "k" = some (Value.int i u) := b4
    have c5 : (fun y => if y = Str.ofString "parts" then some (Value.ref P) else mx y) "parts" = some (Value.ref P) := rfl
    generalize (fun y => if y = Str.ofString "parts" then some (Value.ref P) else mx y) = my at F5 c1 c2 c3 c4 c5
    have hP5 : h5.IsList P (strValues l2).toArray := by
      obtain ⟨o, ho, r⟩ := hP4
      exact ⟨o, hs5.extBut _ _ hPL ho, r⟩
    have hD5 : h5.get? D = some oD := hs5.extBut _ _ hDL (hkept (D, oD) (by simp))
    have hI5 : ∀ o, hb.get? I = some o → h5.get? I = some o := fun o ho => hs5.extBut _ _ hIL (hkept (I, o) (.tail _ (List.mem_map.mpr ⟨o, Option.mem_toList.mpr ho, rfl⟩)))
    have H5 := H.keeps F5.keep
    have hr5 := isList_keeps hr F5.keep
    have hn5 := isList_keeps hn F5.keep
    have hlen2 : l2.length = 5 := by
      have := congrArg List.length hl2
      rw [List.length_map] at this
      exact this
    obtain ⟨u0, p0⟩ := strAt (l := l2) (i := 0) (x := ⟨#[61]⟩) (by rw [hl2]; rfl)
    obtain ⟨u1, p1⟩ := strAt (l := l2) (i := 1) (x := nm) (by rw [hl2]; rfl)
    obtain ⟨u2, p2⟩ := strAt (l := l2) (i := 2) (x := ⟨#[113]⟩) (by rw [hl2]; rfl)
    obtain ⟨u3, p3⟩ := strAt (l := l2) (i := 3) (x := encS r) (by rw [hl2]; rfl)
    obtain ⟨u4, p4⟩ := strAt (l := l2) (i := 4) (x := ⟨#[61]⟩) (by rw [hl2]; rfl)
    refine wpAny_execs_cons ?_
    refine if_no ?_
    refine or_no ?_
    refine wpAny_isTrue_Compare1 ?_
    refine Call_ ?_
    refine ldBlt H5 (by rfl) ?_
    refine PyProof.Rows.callWith_builtin1 ?_
    refine args_cons ?_
    refine ld F5 c5 ?_
    refine args_nil ?_
    refine call_len_list hP5 (by rw [strValues_len]; omega) ?_
    refine wpAny_Constant_int ?_
    refine PyProof.Rows.ne_int (wpAny_truthy_bool ⟨by rw [strValues_len, hlen2]; decide, ?_⟩)
    dsimp only
    refine or_no ?_
    refine wpAny_isTrue_Compare1 ?_
    refine sub_list ?_
    refine ld F5 c5 ?_
    refine wpAny_Constant_int ⟨P, _, 0, _, _, rfl, rfl, hP5, by decide, by decide, p0, Constant_str (PySem.P.ne_str (wpAny_truthy_bool ⟨by decide +kernel, ?_⟩))⟩
    dsimp only
    refine or_no ?_
    refine wpAny_isTrue_Compare1 ?_
    refine sub_list ?_
    refine ld F5 c5 ?_
    refine wpAny_Constant_int ⟨P, _, 1, _, _, rfl, rfl, hP5, by decide, by decide, p1, ?_⟩
    refine sub_list ?_
    refine ld F5 c2 ?_
    refine ld F5 c4 ⟨ln, ni, i, u, _, rfl, rfl, hn5, by omega, by omega, hni, ?_⟩
    refine PySem.P.ne_str (wpAny_truthy_bool ⟨by simp, ?_⟩)
    dsimp only
    refine or_no ?_
    refine wpAny_isTrue_Compare1 ?_
    refine sub_list ?_
    refine ld F5 c5 ?_
    refine wpAny_Constant_int ⟨P, _, 2, _, _, rfl, rfl, hP5, by decide, by decide, p2, Constant_str (PySem.P.ne_str (wpAny_truthy_bool ⟨by decide +kernel, ?_⟩))⟩
    dsimp only
    refine or_no ?_
    refine wpAny_isTrue_Compare1 ?_
    refine sub_list ?_
    refine ld F5 c5 ?_
    refine wpAny_Constant_int ⟨P, _, 4, _, _, rfl, rfl, hP5, by decide, by decide, p4, Constant_str (PySem.P.ne_str (wpAny_truthy_bool ⟨by decide +kernel, ?_⟩))⟩
    dsimp only
    refine isTrue_or_nil ⟨rfl, wpAny_execs_nil ?_⟩
    dsimp only
    refine wpAny_execs_cons ?_
    refine wpAny_For ?_
    refine sub_list ?_
    refine ld F5 c5 ?_
    refine wpAny_Constant_int ⟨P, _, 3, _, _, rfl, rfl, hP5, by decide, by decide, p3, ?_⟩
    refine wpAny_pyIter_str (fun o St W hst => ?_)
    dsimp only
    have hJL : h5.objs.size ≠ L := Nat.ne_of_gt F5.ns.lt
    have hJn : s.heap.get? h5.objs.size = none := by
      cases q : s.heap.get? h5.objs.size with
      | none => rfl
      | some o => exact absurd (Heap.lt_size (F5.keep _ _ q)) (Nat.lt_irrefl _)
    refine forLoop_walk (h₀ := s.heap) (W _ hh) (fun b hb => ?_) (fun b hb => ?_)
      (fun _ m h => m "rows" = some (.ref lr) ∧ m "names" = some (.ref ln) ∧ m "words" = some (.ref D) ∧ m "k" = some (.int i u) ∧ m "parts" = some (.ref P) ∧ ∀ b ob, b ≠ L → h5.get? b = some ob → h.get? b = some ob)
      (fun _ m h h' hJ hk => ?_) (F5.push o) hst ⟨c1, c2, c3, c4, c5, fun b ob _ e => Heap.get?_push_of_some _ e⟩ (fun j v m6 h6 h7 tk7 hj hP hJ hs7 F7 => ?_) (fun h8 tk8 m8 F8 hJ8 => ?_)
    · rw [List.mem_singleton.mp hb]; exact hJL
    · rw [List.mem_singleton.mp hb]; exact hJn
    · obtain ⟨d1, d2, d3, d4, d5, d6⟩ := hJ
      exact ⟨d1, d2, d3, d4, d5, fun b ob hb e => hk b ob (fun q => by rw [List.mem_singleton.mp q] at e; exact absurd (Heap.lt_size e) (Nat.lt_irrefl _)) (d6 b ob hb e)⟩
    · obtain ⟨d1, d2, d3, d4, d5, d6⟩ := hJ
      obtain ⟨c, v', hc, rfl⟩ := hP
      have H7 := H.keeps F7.keep
      refine wpAny_execs_cons (if_no (wpAny_isTrue_Compare1 (ld F7 (by rfl) (ldOwn H7 (by rfl) (PyProof.Rows.notIn_str (wpAny_truthy_bool ⟨?_, wpAny_execs_nil (wpAny_execs_nil ?_)⟩))))))
      · rw [StrLaws.found_one]
        have := enc_safe hfit.oct c (Array.mem_toList_iff.mpr (Array.mem_of_getElem? hc))
        rw [decide_eq_true this]
        rfl
      · refine ⟨h7, _, _, rfl, rfl, F7, ⟨d1, d2, d3, d4, d5, fun b ob hb e => hs7.extBut b ob hb (d6 b ob hb e)⟩, fun b hb ob e => e⟩
    · obtain ⟨d1, d2, d3, d4, d5, d6⟩ := hJ8
      have H8 := H.keeps F8.keep
      have hP8 : h8.IsList P (strValues l2).toArray := by
        obtain ⟨o, ho, r⟩ := hP5
        exact ⟨o, d6 _ _ hPL ho, r⟩
      have hr8 := isList_keeps hr F8.keep
      refine wpAny_execs_cons ?_
      refine if_no ?_
      refine wpAny_isTrue_Compare1 ?_
      refine Call_ ?_
      refine ldOwn H8 (by rfl) ?_
      obtain ⟨oo, pmo, cdo, doco, hoo, hdo, hcdo, hco⟩ := H8.fn (86, "header_decode", 19) (by decide)
      refine callWith_def hdo (args_cons ?_)
      refine sub_list ?_
      refine ld F8 d5 ?_
      refine wpAny_Constant_int ⟨P, _, 3, _, _, rfl, rfl, hP8, by decide, by decide, p3, ?_⟩
      refine args_nil ⟨hoo, ?_⟩
      have hrl := hfit.len
      have hel : (encS r).length ≤ 2 ^ 20 := by
        show (r.cps.toList.flatMap enc1).toArray.size ≤ _
        rw [List.size_toArray]
        have h1 := enc_len r.cps.toList
        have h2 : r.cps.toList.length = r.length := Array.length_toList
        omega
      refine header_decode_spec (cs := r.cps.toList) H8 (by show A.depth + 1 + 2 < _; omega) rfl hel hfit.oct (fun h9 t9 k9 hk9 => ?_)
      dsimp only
      have F9 := F8.after hk9
      have hr9 := isList_keeps hr F9.keep
      refine sub_list ?_
      refine ld F9 d1 ?_
      refine ld F9 d4 ⟨lr, ri, i, u, _, rfl, rfl, hr9, by omega, by omega, hri, ?_⟩
      refine PySem.P.ne_str (wpAny_truthy_bool ⟨by simp, ?_⟩)
      refine wpAny_execs_nil (wpAny_execs_nil ?_)
      refine ⟨h9, _, _, rfl, rfl, F9, ⟨d1, d2, d3, oD, hk9 _ _ (d6 _ _ hDL hD5), rD⟩, fun b hb ob e => ?_⟩
      rw [List.mem_singleton.mp hb] at e ⊢
      exact hk9 _ _ (d6 _ _ hIL (hI5 _ e))
  · exact wpAny_execs_cons (wpAny_Return_some (Constant_bool (hQ _ _ Fz.keep)))
end
end Mine

namespace Mine
open PySem PySem.W PyProof.Rows PySem.Calls

section
variable {prog : Program} {w : World} {A : Around} {E : Value → Shared → Prop} {s : Shared} {mg mb : Str → Option Value}

theorem ldOwnE {env : Env} {x : Str} {pos : Pos} {v : Value} {Q : Value → Shared → Prop} (H : Hp mg mb s.heap) (hv : ownL.lookup x = some v) (h : Q v s)
    (hg : env.globals = mainGlobals := by rfl) (hk : env.scope.kind = .function := by rfl) (hx : env.kindOf x = some .globalImplicit := by rfl)
    (hd : (x == ("__debug__" : Str)) = false := by decide) : wpAny (model prog w) A (eval (.Name x pos) env) Q E s :=
  Name_function_global hk hx (loadGlobal_global (env := env) (hg ▸ H.g) (H.own _ _ hv) h) hd

/-- a cell variable is stored: its cell alone is written -/
theorem stCell {M : Model} {name : Str} {scope : Scope} {L a : Addr} {cd : Value} {h₀ : Heap} {m cm : Str → Option Value} {x : Str} {c : Addr} {v : Value} {Q : Unit → Shared → Prop} (F : Fr h₀ L s.heap m) (X : Cl L (cellsFrom (L + 1) scope.names []) s.heap cm)
    (hc : (cellsFrom (L + 1) scope.names []).lookup x = some c)
    (h : ∀ h', Fr h₀ L h' m → Cl L (cellsFrom (L + 1) scope.names []) h' (fun y => if y = x then some v else cm y) → Heap.SameBut c s.heap h' → Q () { s with heap := h' })
    (hk : scope.kind = .function := by rfl) (hl : (envOfC name scope L a cd).kindOf x = some .cell := by rfl) :
    wpAny M A (storeName (envOfC name scope L a cd) x v) Q E s := by
  have hLc : L < c := X.above x c (mem_of_lookup hc)
  refine wpAny_storeName_cell hk hl hc (X.cell x c hc) fun h' hv hs => h h' ⟨F.ns.sameBut hs (Nat.ne_of_lt hLc), fun b o e => hs.extBut b o (fun q => ?_) (F.keep b o e), F.above⟩ ⟨fun n c' e => ?_, X.apart, X.above⟩ hs
  · have h1 := Heap.lt_size e
    have h2 := F.above
    rw [q] at h1
    exact absurd (Nat.lt_of_lt_of_le h1 h2) (Nat.not_lt.mpr (Nat.le_of_lt hLc))
  · by_cases hn : n = x
    · rw [hn, hc] at e
      cases e
      rw [hn]
      simpa using hv
    · have hcc : c' ≠ c := fun q => hn (name_of_addr X.apart (mem_of_lookup e) (q ▸ mem_of_lookup hc))
      have := (X.cell n c' e).sameBut hs hcc
      simpa [hn] using this

theorem list_not_cell {h : Heap} {a c : Addr} {items : Array Value} {v : Option Value} (hl : h.IsList a items) (hc : h.IsCell c v) : a ≠ c := fun e => by
  obtain ⟨o, ho, _, n, hd⟩ := hl
  obtain ⟨o', ho', hd'⟩ := hc
  rw [e, ho'] at ho
  cases ho
  rw [hd'] at hd
  cases hd

theorem isList_same {h h' : Heap} {a c : Addr} {items : Array Value} (hl : h.IsList a items) (hs : Heap.SameBut c h h') (hne : a ≠ c) : h'.IsList a items :=
  let ⟨o, ho, r⟩ := hl; ⟨o, hs.extBut _ _ hne ho, r⟩

theorem get_two (h : Heap) (o1 o2 : Obj) (hf : o2.isFreed = false) : ((h.push o1).push o2).get? (h.objs.size + 1) = some o2 := by
  have := Heap.get?_push_size (h.push o1) (o := o2) hf
  rwa [Heap.size_push] at this

/-- a row as the law writes it -/
structure RowShort (r : Str) : Prop where
  pos : 1 ≤ r.length
  len : r.length ≤ 600
  oct : ∀ c ∈ r.cps.toList, c < 256

theorem paired_texts {P : Str → Prop} : ∀ {vs ys : List Value}, Paired (fun _ y => ∃ r t, y = Value.str r t ∧ P r) vs ys → ∃ rows : List Str, rows.length = vs.length ∧ (∀ r ∈ rows, P r) ∧ TextsAre ys.toArray rows
  | _, _, .nil => ⟨[], rfl, (fun _ h => nomatch h), rfl, fun i x h => by simp at h⟩
  | _, _, .cons hv r => by
    obtain ⟨x, t, rfl, hx⟩ := hv
    obtain ⟨rows, hl, hP, hs, hr⟩ := paired_texts r
    refine ⟨x :: rows, by rw [List.length_cons, List.length_cons, hl], fun y hy => ?_, ?_, fun i y hy => ?_⟩
    · rcases List.mem_cons.mp hy with rfl | hy
      · exact hx
      · exact hP y hy
    · rw [List.size_toArray] at hs ⊢
      rw [List.length_cons, List.length_cons, hs]
    · cases i with
      | zero =>
        have e : x = y := by simpa using hy
        subst e
        exact ⟨t, by simp⟩
      | succ i =>
        obtain ⟨u, hu⟩ := hr i y (by simpa using hy)
        exact ⟨u, by simpa using hu⟩

theorem names_ok : namesL.all (fun n => decide (n.length ≤ 10) && !(n.cps.toList.contains 32) && !(n.cps.toList.contains 63) && n.cps.toList.all (fun c => decide (c < 256))) = true := by decide +kernel
theorem name_ok {n : Str} (h : n ∈ namesL) : n.length ≤ 10 ∧ 32 ∉ n.cps.toList ∧ 63 ∉ n.cps.toList ∧ ∀ c ∈ n.cps.toList, c < 256 := by
  have := List.all_eq_true.mp names_ok n h
  simp only [Bool.and_eq_true, Bool.not_eq_true', decide_eq_true_eq, List.all_eq_true] at this
  obtain ⟨⟨⟨h1, h2⟩, h3⟩, h4⟩ := this
  refine ⟨h1, fun m => ?_, fun m => ?_, h4⟩
  · rw [List.contains_iff_mem.mpr m] at h2; cases h2
  · rw [List.contains_iff_mem.mpr m] at h3; cases h3
theorem name_at (i : Fin 4) : ∃ z, namesL[i.val]? = some z ∧ z ∈ namesL :=
  have h : i.val < namesL.length := i.isLt
  ⟨namesL[i.val], List.getElem?_eq_getElem h, List.getElem_mem h⟩

theorem wordsOf_mem {rows nms : List Str} {y : Str} (hy : y ∈ wordsOf rows nms) : ∃ r nm, y = wordS r nm ∧ r ∈ rows ∧ nm ∈ nms := by
  unfold wordsOf at hy
  obtain ⟨k, hk⟩ := List.getElem?_of_mem hy
  rw [List.getElem?_zipWith] at hk
  cases h1 : rows[k]? with
  | none => rw [h1] at hk; cases hk
  | some r =>
    cases h2 : nms[k]? with
    | none => rw [h1, h2] at hk; cases hk
    | some nm =>
      rw [h1, h2] at hk
      cases hk
      exact ⟨r, nm, rfl, List.mem_of_getElem? h1, List.mem_of_getElem? h2⟩

theorem join_oct {c B : Nat} (hc : c < B) : ∀ ps : List Str, (∀ p ∈ ps, ∀ x ∈ p.cps.toList, x < B) → ∀ x ∈ (Str.join ⟨#[c]⟩ ps).cps.toList, x < B
  | [], _, x, hx => by
    have hx' : x ∈ ([] : List Nat) := hx
    cases hx'
  | [p], h, x, hx => h p (.head _) x hx
  | p :: q :: r, h, x, hx => by
    rw [join_two] at hx
    rcases List.mem_append.mp hx with hx | hx
    · exact h p (.head _) x hx
    · rcases List.mem_cons.mp hx with rfl | hx
      · exact hc
      · exact join_oct hc (q :: r) (fun y hy => h y (.tail _ hy)) x hx
theorem join_long (c : Nat) : ∀ (p : Str) (r : List Str), p.cps.toList.length ≤ (Str.join ⟨#[c]⟩ (p :: r)).cps.toList.length
  | p, [] => Nat.le_refl _
  | p, q :: r => by
    rw [join_two, List.length_append]
    omega
theorem safe_oct : safeCs.all (fun c => decide (c < 256)) = true := by decide +kernel
theorem word_oct {r nm : Str} (h : ∀ c ∈ r.cps.toList, c < 256) (hn : ∀ c ∈ nm.cps.toList, c < 256) : ∀ c ∈ (wordS r nm).cps.toList, c < 256 := fun c m => by
  have m' : c ∈ wordCs nm.cps.toList r.cps.toList := m
  unfold wordCs at m'
  simp only [List.mem_append, List.mem_cons, List.not_mem_nil, or_false] at m'
  rcases m' with (((h1 | h1) | h1) | h1) | h1
  · omega
  · exact hn c h1
  · omega
  · have := List.all_eq_true.mp safe_oct c (enc_safe h c (show c ∈ (encS r).cps.toList from h1))
    exact of_decide_eq_true this
  · omega

theorem line_fit {rows nms : List Str} (h1 : 1 ≤ rows.length) (h4 : rows.length ≤ 4) (hle : rows.length ≤ nms.length) (hr : ∀ r ∈ rows, RowShort r) (hn : ∀ n ∈ nms, n ∈ namesL) : RowFit (Txt.join ⟨#[32]⟩ (wordsOf rows nms)) := by
  have e : Txt.join ⟨#[32]⟩ (wordsOf rows nms) = Str.join ⟨#[32]⟩ (wordsOf rows nms) := StrLaws.glued_eq_join _ _
  have hwl : (wordsOf rows nms).length = rows.length := by
    unfold wordsOf
    rw [List.length_zipWith]
    omega
  rw [e]
  have hB : ∀ y ∈ wordsOf rows nms, y.length ≤ 1820 := fun y hy => by
    obtain ⟨r, nm, rfl, a, b⟩ := wordsOf_mem hy
    have f1 := (hr r a).len
    have f2 := (name_ok (hn nm b)).1
    show (wordCs nm.cps.toList r.cps.toList).toArray.size ≤ _
    rw [List.size_toArray]
    have := wordCs_len nm.cps.toList r.cps.toList
    have e1 : nm.cps.toList.length = nm.length := Array.length_toList
    have e2 : r.cps.toList.length = r.length := Array.length_toList
    omega
  refine ⟨?_, ?_, ?_⟩
  · cases ew : wordsOf rows nms with
    | nil => rw [ew] at hwl; rw [List.length_nil] at hwl; omega
    | cons p r =>
      obtain ⟨x, nm, rfl, a, b⟩ := wordsOf_mem (show p ∈ wordsOf rows nms by rw [ew]; exact .head _)
      have := join_long 32 (wordS x nm) r
      have e3 : (Str.join ⟨#[32]⟩ (wordS x nm :: r)).cps.toList.length = (Str.join ⟨#[32]⟩ (wordS x nm :: r)).length := Array.length_toList
      have e4 : 1 ≤ (wordS x nm).cps.toList.length := by
        show 1 ≤ (wordCs nm.cps.toList x.cps.toList).length
        unfold wordCs
        simp
      omega
  · have g1 := StrLaws.join_length_le ⟨#[32]⟩ (wordsOf rows nms)
    have g2 := StrLaws.sumLen_le (B := 1820) (wordsOf rows nms) hB
    have e1 : (⟨#[32]⟩ : Str).length = 1 := rfl
    rw [e1, hwl] at g1
    rw [hwl] at g2
    omega
  · refine join_oct (by decide) _ fun p hp => ?_
    obtain ⟨r, nm, rfl, a, b⟩ := wordsOf_mem hp
    exact word_oct (hr r a).oct (name_ok (hn nm b)).2.2.2

theorem list_not_ns {h : Heap} {a L : Addr} {items : Array Value} {m : Str → Option Value} (hl : h.IsList a items) (hc : h.Ns L m) : a ≠ L := fun e => by
  obtain ⟨o, ho, _, n, hd⟩ := hl
  obtain ⟨o', es, ep, ho', hd', _⟩ := hc
  rw [e, ho'] at ho
  cases ho
  rw [hd'] at hd
  cases hd

/-- a local is stored beside cells -/
theorem stLocK {M : Model} {name : Str} {scope : Scope} {L a : Addr} {cd : Value} {h₀ : Heap} {m cm : Str → Option Value} {x : Str} {v : Value} {Q : Unit → Shared → Prop} (F : Fr h₀ L s.heap m) (X : Cl L (cellsFrom (L + 1) scope.names []) s.heap cm)
    (h : ∀ h', Fr h₀ L h' (fun y => if y = x then some v else m y) → Cl L (cellsFrom (L + 1) scope.names []) h' cm → Heap.SameBut L s.heap h' → Q () { s with heap := h', toks := s.toks + 1 })
    (hk : scope.kind = .function := by rfl) (hl : (envOfC name scope L a cd).kindOf x = some .local := by rfl) :
    wpAny M A (storeName (envOfC name scope L a cd) x v) Q E s :=
  wpAny_storeName_local hl F.ns (fun h' hn hs => h h' (F.set hn hs) (X.sameBut hs (Nat.le_refl _)) hs)
    (by show (scope.kind == .class || (scope.kind == .module && L != mainGlobals)) = false; rw [hk]; rfl)

theorem after_comp {h₀ h h6 h' : Heap} {L I : Addr} {cs : List (Str × Addr)} {m m' cm : Str → Option Value} (F : Fr h₀ L h m) (X : Cl L cs h cm) (hI : h.get? I = none) (hk6 : Keeps h h6) (hns : h'.Ns L m')
    (hk : ∀ b o, b ≠ L → b ∉ [I] → h6.get? b = some o → h'.get? b = some o) : Fr h₀ L h' m' ∧ Cl L cs h' cm ∧ ∀ b o, b ≠ L → h.get? b = some o → h'.get? b = some o := by
  have key : ∀ b o, b ≠ L → h.get? b = some o → h'.get? b = some o := fun b o hb e => hk b o hb (fun q => by rw [List.mem_singleton.mp q, hI] at e; cases e) (hk6 b o e)
  refine ⟨⟨hns, fun b o e => key b o (fun q => ?_) (F.keep b o e), F.above⟩, ⟨fun n c e => ?_, X.apart, X.above⟩, key⟩
  · have h1 := Heap.lt_size e
    rw [q] at h1
    exact absurd (Nat.lt_of_lt_of_le h1 F.above) (Nat.lt_irrefl _)
  · obtain ⟨o, ho, hd⟩ := X.cell n c e
    exact ⟨o, key c o (Nat.ne_of_gt (X.above n c (mem_of_lookup e))) ho, hd⟩

theorem units_ok {u : Nat} (h : u ≤ 100) : u + 64 < cLine := by unfold cLine; omega

set_option maxHeartbeats 4000000 in
theorem law_spec {l : Addr} {vs : List Value} {ns : List Int} {Q : Value → Shared → Prop} (H : Hp mg mb s.heap) (hf : FnAt s.heap 119 "law" 28) (hh : A.handled = none) (hroom : A.depth + 4 < recursionLimit) (hu : A.units ≤ 90)
    (hl : s.heap.IsList l vs.toArray) (hi : IntsAre vs ns) (hn : ns.length ≤ 63)
    (hQ : ∀ h' tk', Keeps s.heap h' → Q (.bool true) { s with heap := h', toks := tk' }) :
    wpAny (model prog w) A (call (.ref 119) [.ref l]) Q E s := by
  obtain ⟨o, pm, cd, doc, ho, hd, hcd, _⟩ := hf
  refine wpAny_call (call_cells_ret (name := "law") (binds := [("script", .ref l)]) (by omega) ho hd H.nolimit hcd (by rfl) (fun x hx => ?_) (fun h₁ tk F X => ?_))
  · rw [List.mem_singleton.mp hx]
    exact .inl (by rfl)
  dsimp only
  show wpAny _ _ (execs (_ :: _ :: _ :: _ :: _ :: _ :: _ :: _ :: _ :: []) _) _ _ _
  generalize s.heap.objs.size = L at F X ⊢
  have e1 : bindL (envOfC "law" (fnScope 28) L 119 cd).kindOf [("script", .ref l)] (fun _ => none) "script" = some (.ref l) := by rfl
  generalize bindL (envOfC "law" (fnScope 28) L 119 cd).kindOf [("script", .ref l)] (fun _ => none) = m at F e1
  generalize bindC (envOfC "law" (fnScope 28) L 119 cd).kindOf [("script", .ref l)] (fun _ => none) = cm at X
  have hlen := hi.length
  have hl1 := isList_keeps hl F.keep
  -- first
  refine wpAny_execs_cons (wpAny_Assign_Name (wpAny_mono (Q := fun v s' => ∃ n t h' tk', v = .int n t ∧ s' = { s with heap := h', toks := tk' } ∧ Keeps h₁ h') ?_ (fun v s' hv => ?_) (fun _ _ e => e)))
  · refine wpAny_IfExp ?_
    refine wpAny_isTrue_Compare1 ?_
    refine ldLoc F e1 ?_
    refine wpAny_List ?_
    refine wpAny_items_nil ⟨by show 0 ≤ sizeLine; decide, ?_⟩
    refine ne_intsK (isList_keeps hl1 (Keeps.push _)) hi ⟨_, Heap.get?_push_size _ rfl, rfl, _, rfl⟩ .nil (units_ok (by show A.units + 3 ≤ 100; omega)) (wpAny_truthy_bool ?_)
    cases ns with
    | nil =>
      rw [if_neg (by simp)]
      exact wpAny_Constant_int ⟨_, _, _, _, rfl, rfl, Keeps.push _⟩
    | cons n r =>
      rw [if_pos (by simp)]
      obtain ⟨v, hv⟩ : ∃ v, vs[0]? = some v := ⟨vs[0]'(by rw [hlen]; simp), List.getElem?_eq_getElem _⟩
      obtain ⟨k, u, rfl, _⟩ := IntsAre.at hi 0 v hv
      refine sub_list ?_
      refine ldLoc (F.push _) e1 ?_
      refine wpAny_Constant_int ⟨l, _, 0, _, .int k u, rfl, rfl, isList_keeps hl1 (Keeps.push _), by decide, by decide, by simpa using hv, ?_⟩
      exact ⟨_, _, _, _, rfl, rfl, Keeps.push _⟩
  obtain ⟨n, tf, h2, tk2, rfl, rfl, k2⟩ := hv
  have F2 := F.after k2
  refine PyProof.Rows.stC (c := L + 1) F2 (X.keeps k2) (by rfl) (fun h3 F3 X3 => ?_)
  dsimp only
  have v1 : (fun y => if y = Str.ofString "first" then some (Value.int n tf) else cm y) "first" = some (.int n tf) := rfl
  generalize (fun y => if y = Str.ofString "first" then some (Value.int n tf) else cm y) = cm3 at X3 v1
  have H3 := H.keeps F3.keep
  have hl3 := isList_keeps hl F3.keep
  -- numbers
  refine wpAny_execs_cons (wpAny_Assign_Name (wpAny_mono (Q := fun v s' => ∃ N us ms h' tk', v = .ref N ∧ s' = { s with heap := h', toks := tk' } ∧ Keeps h3 h' ∧ h'.IsList N (us : List Value).toArray ∧ IntsAre us ms ∧ ms.length ≤ 63) ?_ (fun v s' hv => ?_) (fun _ _ e => e)))
  · refine wpAny_IfExp ?_
    refine wpAny_isTrue_Compare1 ?_
    refine Call_ ?_
    refine ldBltE H3 (by rfl) ?_
    refine PyProof.Rows.callWith_builtin1 ?_
    refine args_cons ?_
    refine ldLoc F3 e1 ?_
    refine args_nil ?_
    refine call_len_list hl3 (by rw [List.size_toArray, hlen]; omega) ?_
    refine wpAny_Constant_int ?_
    refine PyProof.Rows.gt_int ?_
    refine wpAny_truthy_bool ?_
    dsimp only
    split
    · refine wpAny_Subscript_list_slice (ldLoc F3 e1 ?_)
      rw [evalPart_some, evalPart_none]
      refine wpAny_Constant_int (wpAny_pure ⟨l, vs.toArray, some 1, none, rfl, hl3, by rw [List.size_toArray, hlen]; unfold sizeLine; omega, .int _ _, .none, ?_⟩)
      refine ⟨_, (slicePick vs.toArray (some 1) none none).toList, _, _, _, rfl, rfl, Keeps.trans (Keeps.push _) (Keeps.push _), ?_, hi.pick _ _ _, Nat.le_trans (length_pickNums_le hi _ _ _) hn⟩
      have e : (slicePick vs.toArray (some 1) none none).toList.toArray = slicePick vs.toArray (some 1) none none := Array.toArray_toList
      rw [e]
      exact ⟨_, get_two _ _ _ rfl, rfl, _, rfl⟩
    · refine wpAny_List ?_
      refine wpAny_items_cons ?_
      refine PyProof.Rows.ldC X3 (by rfl) v1 ?_
      refine wpAny_items_cons ?_
      refine wpAny_Constant_int ?_
      refine wpAny_items_cons ?_
      refine wpAny_Constant_int ?_
      refine wpAny_items_cons ?_
      refine wpAny_Constant_int ?_
      refine wpAny_items_nil ⟨by show 4 ≤ sizeLine; decide, ?_⟩
      refine ⟨_, [.int n tf, .int 3 _, .int 5 _, .int 18 _], [n, 3, 5, 18], _, _, rfl, rfl, Keeps.push _, ⟨_, Heap.get?_push_size _ rfl, rfl, _, rfl⟩, .cons _ _ (.cons _ _ (.cons _ _ (.cons _ _ .nil))), by simp⟩
  obtain ⟨N, us, ms, h4, tk4, rfl, rfl, k4, hN4, hms, hml⟩ := hv
  refine stCell (c := L + 2) (F3.after k4) (X3.keeps k4) (by rfl) (fun h5 F5 X5 hs5 => ?_)
  dsimp only
  have hN5 := isList_same hN4 hs5 (list_not_cell hN4 ((X3.keeps k4).cell "numbers" _ (by rfl)))
  have v2 : (fun y => if y = Str.ofString "numbers" then some (Value.ref N) else cm3 y) "first" = some (.int n tf) := v1
  have v3 : (fun y => if y = Str.ofString "numbers" then some (Value.ref N) else cm3 y) "numbers" = some (.ref N) := rfl
  generalize (fun y => if y = Str.ofString "numbers" then some (Value.ref N) else cm3 y) = cm5 at X5 v2 v3
  clear hs5 X3 v1 k4 F3 H3 hl3 X k2 F2
  have H5 := H.keeps F5.keep
  -- rows
  refine wpAny_execs_cons (wpAny_Assign_ListComp_free (cl := [("numbers", L + 2)]) (fun _ => true) (fun _ y => ∃ r t, y = Value.str r t ∧ RowShort r) (by rfl) (by rfl) (by decide) rfl (by decide) rfl (by rfl) (by rfl)
    (Call_ (ldBltE H5 (by rfl) (Pv.callWith_type1 (args_cons (wpAny_BinOp (wpAny_Constant_int (wpAny_BinOp (PyProof.Rows.ldC X5 (by rfl) v2 (wpAny_Constant_int (mod_int' (by decide) (PyProof.Rows.add_int (args_nil ?_)))))))))))))
  have m0 := Int.fmod_nonneg_of_pos n (show (0 : Int) < 4 by decide)
  have m1 := Int.fmod_lt_of_pos n (show (0 : Int) < 4 by decide)
  obtain ⟨K, hK, hK1, hK4⟩ : ∃ K : Nat, 1 + n.fmod 4 = (K : Int) ∧ 1 ≤ K ∧ K ≤ 4 := ⟨(1 + n.fmod 4).toNat, by omega, by omega, by omega⟩
  rw [hK]
  refine range_iter (by omega) (fun h6 t6 I k6 hI hIn hIle => ?_)
  dsimp only at k6 hIn hIle ⊢
  have hIL : I ≠ L := Nat.ne_of_gt (Nat.lt_of_lt_of_le F5.ns.lt hIle)
  have hIs : s.heap.get? I = none := by
    cases q : s.heap.get? I with
    | none => rfl
    | some o => have := F5.keep _ _ q; rw [hIn] at this; cases this
  have hIN : N ≠ I := fun e => by
    obtain ⟨o, ho, _⟩ := hN5
    rw [e, hIn] at ho
    cases ho
  refine ⟨I, [I], [I], K, _, _, m, rfl, Walks.range (prog := prog) (w := w) (A := A.deeper (envOfC "law" (fnScope 28) L 119 cd)) hh I 0 1 K, by unfold sizeLine; omega, hI, fun b hb => ?_, fun hb => ?_, (F5.after k6).ns, ⟨fun C i v s₃ m₃ E' hC hP hn hm hk ht => wpAny_pure ⟨rfl, s₃.heap, s₃.toks, rfl, fun _ _ e => e⟩, fun C i v s₃ m₃ E' hC hP _ hn hm hk ht => ?_⟩, fun D h' tk' ys vs' hD hlD hpD hlen' hP' hF hns hk => ?_⟩
  · rw [List.mem_singleton.mp hb]
    exact Heap.lt_size hI
  · exact hIL (List.mem_singleton.mp hb).symm
  · obtain ⟨u, rfl⟩ := hP
    have k3 : Keeps h5 s₃.heap := fun b ob e => hk b ob (fun hb => by rw [List.mem_singleton.mp hb, hIn] at e; cases e) (k6 b ob e)
    have H₃ := H5.keeps k3
    have hcN : s₃.heap.IsCell (L + 2) (some (.ref N)) := by
      have := (X5.keeps k3).cell "numbers" (L + 2) (by rfl)
      rw [v3] at this
      exact this
    obtain ⟨oo, pmo, cdo, doco, hoo, hdo, hcdo, hco⟩ := H₃.fn (95, "_law_row", 24) (by decide)
    refine Call_ ?_
    refine ldOwnE H₃ (by rfl) ?_
    refine callWith_def hdo ?_
    refine args_cons ?_
    refine wpAny_Subscript_list_slice ?_
    refine wpAny_Name ?_
    refine wpAny_loadName_cell (by rfl) (by rfl) (by rfl) hcN ?_
    rw [evalPart_some, evalPart_some]
    refine wpAny_BinOp ?_
    refine wpAny_Constant_int ?_
    refine wpAny_Name ?_
    refine wpAny_loadName_local (by rfl) (by rfl) hn hm ?_
    refine PyProof.Rows.mul_int ?_ (IntMulOk.of_left (intBits_le_64 (by decide) (by decide)))
    refine wpAny_BinOp ?_
    refine wpAny_BinOp ?_
    refine wpAny_Constant_int ?_
    refine wpAny_Name ?_
    refine wpAny_loadName_local (by rfl) (by rfl) hn hm ?_
    refine PyProof.Rows.mul_int ?_ (IntMulOk.of_left (intBits_le_64 (by decide) (by decide)))
    refine wpAny_Constant_int ?_
    refine PyProof.Rows.add_int ?_
    have hus : us.length ≤ 63 := by rw [hms.length]; exact hml
    refine ⟨N, us.toArray, _, _, rfl, isList_keeps hN5 k3, by rw [List.size_toArray]; unfold sizeLine; omega, .int _ _, .int _ _, ?_⟩
    refine args_nil ⟨Heap.get?_push_of_some _ (Heap.get?_push_of_some _ hoo), ?_⟩
    refine law_row_spec (vs := (slicePick us.toArray (some (3 * (0 + (i : Int) * 1))) (some (3 * (0 + (i : Int) * 1) + 3)) none).toList) (ns := pickNums ms (some (3 * (0 + (i : Int) * 1))) (some (3 * (0 + (i : Int) * 1) + 3)) none) (H₃.keeps (Keeps.trans (Keeps.push _) (Keeps.push _))) hh (by show A.depth + 1 < _; omega) ?_ (hms.pick (some (3 * (0 + (i : Int) * 1))) (some (3 * (0 + (i : Int) * 1) + 3)) none) (Nat.le_trans (length_pickNums_le hms (some (3 * (0 + (i : Int) * 1))) (some (3 * (0 + (i : Int) * 1) + 3)) none) (by omega)) (fun h' y tk1 tk2 kk hy => ?_)
    · have e : (slicePick us.toArray (some (3 * (0 + (i : Int) * 1))) (some (3 * (0 + (i : Int) * 1) + 3)) none).toList.toArray = slicePick us.toArray (some (3 * (0 + (i : Int) * 1))) (some (3 * (0 + (i : Int) * 1) + 3)) none := Array.toArray_toList
      rw [e]
      exact ⟨_, get_two _ _ _ rfl, rfl, _, rfl⟩
    · have hpn := length_pickNums_le hms (some (3 * (0 + (i : Int) * 1))) (some (3 * (0 + (i : Int) * 1) + 3)) none
      have hyl := hy.len
      exact ⟨⟨y, tk1, rfl, ⟨hy.pos, by omega, hy.oct⟩⟩, h', _, rfl, Keeps.trans (Keeps.trans (Keeps.push _) (Keeps.push _)) kk⟩
  obtain ⟨F7, X7, kb7⟩ := after_comp F5 X5 hIn k6 hns hk
  have hN7 : h'.IsList N us.toArray := by
    obtain ⟨oN, hoN, rN⟩ := hN5
    exact ⟨oN, kb7 N oN (list_not_ns ⟨oN, hoN, rN⟩ F5.ns) hoN, rN⟩
  have ef : vs'.filter (fun _ => true) = vs' := List.filter_eq_self.mpr fun _ _ => rfl
  rw [ef] at hF
  obtain ⟨rows, hrl, hrS, hrT⟩ := paired_texts hF
  have hrT' : TextsAre ys rows := by
    have e : ys.toList.toArray = ys := Array.toArray_toList
    rw [e] at hrT
    exact hrT
  have hrK : rows.length = K := by rw [hrl, hlen']
  have w1 : (fun z => if z = Str.ofString "rows" then some (Value.ref D) else m z) "rows" = some (.ref D) := rfl
  generalize (fun z => if z = Str.ofString "rows" then some (Value.ref D) else m z) = m7 at F7 w1
  clear hns hk hF hrT hP' hpD hD hI hIn hIle hIN hIs hIL k6
  have H7 := H.keeps F7.keep
  -- names
  refine wpAny_execs_cons (wpAny_Assign_ListComp_free (cl := [("first", L + 1)]) (fun _ => true) (fun _ y => ∃ r t, y = Value.str r t ∧ r ∈ namesL) (by rfl) (by rfl) (by decide) rfl (by decide) rfl (by rfl) (by rfl)
    (Call_ (ldBltE H7 (by rfl) (Pv.callWith_type1 (args_cons (wpAny_Constant_int (args_nil ?_)))))))
  refine range_iter (N := 4) (by omega) (fun h8 t8 I k8 hI hIn hIle => ?_)
  dsimp only at k8 hIn hIle ⊢
  have hIL : I ≠ L := Nat.ne_of_gt (Nat.lt_of_lt_of_le F7.ns.lt hIle)
  have hIs : s.heap.get? I = none := by
    cases q : s.heap.get? I with
    | none => rfl
    | some o => have := F7.keep _ _ q; rw [hIn] at this; cases this
  refine ⟨I, [I], [I], 4, _, _, m7, rfl, Walks.range (prog := prog) (w := w) (A := A.deeper (envOfC "law" (fnScope 28) L 119 cd)) hh I 0 1 4, by unfold sizeLine; omega, hI, fun b hb => ?_, fun hb => ?_, (F7.after k8).ns, ⟨fun C i v s₃ m₃ E' hC hP hn hm hk ht => wpAny_pure ⟨rfl, s₃.heap, s₃.toks, rfl, fun _ _ e => e⟩, fun C i v s₃ m₃ E' hC hP _ hn hm hk ht => ?_⟩, fun D2 h9 tk9 ys2 vs2 hD2 hlD2 hpD2 hlen2 hP2 hF2 hns2 hk2 => ?_⟩
  · rw [List.mem_singleton.mp hb]
    exact Heap.lt_size hI
  · exact hIL (List.mem_singleton.mp hb).symm
  · obtain ⟨u, rfl⟩ := hP
    have k3 : Keeps h' s₃.heap := fun b ob e => hk b ob (fun hb => by rw [List.mem_singleton.mp hb, hIn] at e; cases e) (k8 b ob e)
    have H₃ := H7.keeps k3
    have hcN : s₃.heap.IsCell (L + 1) (some (.int n tf)) := by
      have := (X7.keeps k3).cell "first" (L + 1) (by rfl)
      rw [v2] at this
      exact this
    obtain ⟨items, hT, hsz, hit⟩ := H₃.names
    have q0 := Int.fmod_nonneg_of_pos (n + (0 + (i : Int) * 1)) (show (0 : Int) < 4 by decide)
    have q1 := Int.fmod_lt_of_pos (n + (0 + (i : Int) * 1)) (show (0 : Int) < 4 by decide)
    obtain ⟨z, hz1, hz2⟩ := name_at ⟨((n + (0 + (i : Int) * 1)).fmod 4).toNat, by omega⟩
    obtain ⟨uz, hz5⟩ := hit _ _ hz1
    have hsz' : items.size = 4 := by rw [hsz]; rfl
    refine sub_tuple ?_
    refine ldOwnE H₃ (by rfl) ?_
    refine wpAny_BinOp ?_
    refine wpAny_BinOp ?_
    refine wpAny_Name ?_
    refine wpAny_loadName_cell (by rfl) (by rfl) (by rfl) hcN ?_
    refine wpAny_Name ?_
    refine wpAny_loadName_local (by rfl) (by rfl) hn hm ?_
    refine PyProof.Rows.add_int ?_
    refine wpAny_Constant_int ?_
    refine mod_int' (by decide) ?_
    refine ⟨87, items, _, _, _, .str z uz, rfl, rfl, hT, q0, by rw [hsz']; omega, by rw [hsz']; decide, rfl, hz5, ?_⟩
    exact ⟨⟨z, uz, rfl, hz2⟩, s₃.heap, _, rfl, fun _ _ e => e⟩
  obtain ⟨F9, X9, kb9⟩ := after_comp F7 X7 hIn k8 hns2 hk2
  have hN9 : h9.IsList N us.toArray := by
    obtain ⟨oN, hoN, rN⟩ := hN7
    exact ⟨oN, kb9 N oN (list_not_ns ⟨oN, hoN, rN⟩ F7.ns) hoN, rN⟩
  have hlD9 : h9.IsList D ys := by
    obtain ⟨oN, hoN, rN⟩ := hlD
    exact ⟨oN, kb9 D oN (list_not_ns ⟨oN, hoN, rN⟩ F7.ns) hoN, rN⟩
  have ef : vs2.filter (fun _ => true) = vs2 := List.filter_eq_self.mpr fun _ _ => rfl
  rw [ef] at hF2
  obtain ⟨nms, hnl, hnS, hnT⟩ := paired_texts hF2
  have hnT' : TextsAre ys2 nms := by
    have e : ys2.toList.toArray = ys2 := Array.toArray_toList
    rw [e] at hnT
    exact hnT
  have hnK : nms.length = 4 := by rw [hnl, hlen2]
  have x1 : (fun z => if z = Str.ofString "names" then some (Value.ref D2) else m7 z) "rows" = some (.ref D) := w1
  have x2 : (fun z => if z = Str.ofString "names" then some (Value.ref D2) else m7 z) "names" = some (.ref D2) := rfl
  generalize (fun z => if z = Str.ofString "names" then some (Value.ref D2) else m7 z) = m9 at F9 x1 x2
  clear hns2 hk2 hF2 hnT hP2 hpD2 hD2 hI hIn hIle hIs hIL k8
  have hfit : ∀ r ∈ rows, RowFit r := fun r hr => ⟨(hrS r hr).pos, by have := (hrS r hr).len; omega, (hrS r hr).oct⟩
  have hnmLen : ∀ n ∈ nms, n.length ≤ 2 ^ 10 := fun n hn => by have := (name_ok (hnS n hn)).1; omega
  have hnmFree : ∀ n ∈ nms, 32 ∉ n.cps.toList ∧ 63 ∉ n.cps.toList := fun n hn => ⟨(name_ok (hnS n hn)).2.1, (name_ok (hnS n hn)).2.2.1⟩
  have hlf : RowFit (Txt.join ⟨#[32]⟩ (wordsOf rows nms)) := line_fit (by omega) (by omega) (by omega) hrS hnS
  have H9 := H.keeps F9.keep
  -- line
  obtain ⟨o1, pm1, cd1, doc1, ho1, hd1, hcd1, hco1⟩ := H9.fn (107, "_law_line", 26) (by decide)
  refine wpAny_execs_cons ?_
  refine wpAny_Assign_Name ?_
  refine Call_ ?_
  refine ldOwnE H9 (by rfl) ?_
  refine callWith_def hd1 ?_
  refine args_cons ?_
  refine ldLoc F9 x1 ?_
  refine args_cons ?_
  refine ldLoc F9 x2 ?_
  refine args_nil ⟨ho1, ?_⟩
  refine law_line_spec H9 hh (by show A.depth + 1 + 1 < _; omega) hlD9 hrT' hlD2 hnT' (by omega) (by omega) hfit hnmLen (fun h10 t10 k10 kk10 => ?_)
  dsimp only at kk10 ⊢
  generalize hline : Txt.join ⟨#[32]⟩ (wordsOf rows nms) = line at hlf ⊢
  refine stLocK (F9.after kk10) (X9.keeps kk10) (fun h11 F11 X11 hs11 => ?_)
  dsimp only
  have keepL : ∀ {b : Addr} {items : Array Value}, h9.IsList b items → h11.IsList b items := fun {b items} hb => isList_same (isList_keeps hb kk10) hs11 (list_not_ns hb F9.ns)
  have hN11 := keepL hN9
  have hD11 := keepL hlD9
  have hE11 := keepL hlD2
  have y1 : (fun y => if y = Str.ofString "line" then some (Value.str line t10) else m9 y) "rows" = some (.ref D) := x1
  have y2 : (fun y => if y = Str.ofString "line" then some (Value.str line t10) else m9 y) "names" = some (.ref D2) := x2
  have y3 : (fun y => if y = Str.ofString "line" then some (Value.str line t10) else m9 y) "line" = some (.str line t10) := rfl
  generalize (fun y => if y = Str.ofString "line" then some (Value.str line t10) else m9 y) = m11 at F11 y1 y2 y3
  have H11 := H.keeps F11.keep
  -- the scan
  obtain ⟨o2, pm2, cd2, doc2, ho2, hd2, hcd2, hco2⟩ := H11.fn (114, "_law_scan", 27) (by decide)
  refine wpAny_execs_cons ?_
  refine if_no ?_
  refine wpAny_isTrue_Not ?_
  refine isTrue_plain ?_
  refine Call_ ?_
  refine ldOwnE H11 (by rfl) ?_
  refine callWith_def hd2 ?_
  refine args_cons ?_
  refine ldLoc F11 y3 ?_
  refine args_cons ?_
  refine ldLoc F11 y1 ?_
  refine args_cons ?_
  refine ldLoc F11 y2 ?_
  refine args_nil ⟨ho2, ?_⟩
  rw [← hline]
  refine law_scan_spec H11 hh (by show A.depth + 1 + 3 < _; omega) hD11 hrT' hE11 hnT' (by omega) (by omega) (by omega) hfit hnmLen hnmFree (fun h12 k12 kk12 => ?_)
  dsimp only at kk12 ⊢
  refine wpAny_truthy_bool ⟨rfl, wpAny_execs_nil ?_⟩
  dsimp only
  have F12 := F11.after kk12
  have X12 := X11.keeps kk12
  have H12 := H.keeps F12.keep
  refine wpAny_execs_cons ?_
  refine wpAny_If ?_
  refine wpAny_isTrue_Compare1 ?_
  refine wpAny_BinOp ?_
  refine wpAny_BinOp ?_
  refine PyProof.Rows.ldC X12 (by rfl) v2 ?_
  refine wpAny_Constant_int ?_
  refine PyProof.Rows.floordiv_int (by decide) ?_ (Or.inl (PyProof.noPylong_small (by decide)))
  refine wpAny_Constant_int ?_
  refine mod_int' (by decide) ?_
  refine wpAny_Constant_int ?_
  refine PyProof.Rows.eq_int ?_
  refine wpAny_truthy_bool ?_
  dsimp only
  have hp := hlf.pos
  have hq := hlf.len
  split
  · refine wpAny_execs_cons ?_
    refine wpAny_Return_some ?_
    refine wpAny_Compare1 ?_
    refine Call_ ?_
    refine ldBltE H12 (by rfl) ?_
    refine PyProof.Rows.callWith_builtin1 ?_
    refine args_cons ?_
    refine ldLoc F12 y3 ?_
    refine args_nil ?_
    refine PyProof.Rows.len_str (by omega) ?_
    refine wpAny_Constant_int ?_
    refine PyProof.Rows.gt_int ?_
    rw [decide_eq_true (show (0 : Int) < (line.length : Int) by omega)]
    exact hQ _ _ F12.keep
  · refine wpAny_execs_nil ?_
    dsimp only
    have hN12 := isList_keeps hN11 kk12
    have hE12 := isList_keeps hE11 kk12
    obtain ⟨o3, pm3, cd3, doc3, ho3, hd3, hcd3, hco3⟩ := H12.fn (95, "_law_row", 24) (by decide)
    refine wpAny_execs_cons ?_
    refine wpAny_Assign_Name ?_
    refine wpAny_List ?_
    refine wpAny_items_cons ?_
    refine ldLoc F12 y3 ?_
    refine wpAny_items_cons ?_
    refine Call_ ?_
    refine ldOwnE H12 (by rfl) ?_
    refine callWith_def hd3 ?_
    refine args_cons ?_
    refine wpAny_Subscript_list_slice ?_
    refine PyProof.Rows.ldC X12 (by rfl) v3 ?_
    rw [evalPart_some, evalPart_some]
    have hus : us.length ≤ 63 := by rw [hms.length]; exact hml
    refine wpAny_Constant_int (wpAny_Constant_int ⟨N, us.toArray, _, _, rfl, hN12, by rw [List.size_toArray]; unfold sizeLine; omega, .int _ _, .int _ _, ?_⟩)
    refine args_nil ⟨Heap.get?_push_of_some _ (Heap.get?_push_of_some _ ho3), ?_⟩
    refine law_row_spec (vs := (slicePick us.toArray (some 12) (some 15) none).toList) (ns := pickNums ms (some 12) (some 15) none) (H12.keeps (Keeps.trans (Keeps.push _) (Keeps.push _))) hh (by show A.depth + 1 < _; omega) ?_ (hms.pick (some 12) (some 15) none) (Nat.le_trans (length_pickNums_le hms (some 12) (some 15) none) (by omega)) (fun h13 y t13 k13 kk13 hy => ?_)
    · have e : (slicePick us.toArray (some 12) (some 15) none).toList.toArray = slicePick us.toArray (some 12) (some 15) none := Array.toArray_toList
      rw [e]
      exact ⟨_, get_two _ _ _ rfl, rfl, _, rfl⟩
    have hpn := length_pickNums_le hms (some 12) (some 15) none
    have hyl := hy.len
    have hyF : RowFit y := ⟨hy.pos, by omega, hy.oct⟩
    have kk13' : Keeps h12 h13 := Keeps.trans (Keeps.trans (Keeps.push _) (Keeps.push _)) kk13
    clear kk13
    refine wpAny_items_nil ⟨by show 2 ≤ sizeLine; decide, ?_⟩
    dsimp only
    have kk14 : Keeps h12 (h13.push { cls := .type "list", data := .seq [Value.str line t10, Value.str y t13].toArray }) := Keeps.trans kk13' (Keeps.push _)
    have hS14 : (h13.push { cls := .type "list", data := .seq [Value.str line t10, Value.str y t13].toArray }).IsList h13.objs.size [Value.str line t10, Value.str y t13].toArray := ⟨_, Heap.get?_push_size _ rfl, rfl, _, rfl⟩
    generalize h13.objs.size = S at hS14 ⊢
    generalize h13.push { cls := .type "list", data := .seq [Value.str line t10, Value.str y t13].toArray } = h14 at kk14 hS14 ⊢
    have hST : TextsAre [Value.str line t10, Value.str y t13].toArray [line, y] := by
      refine ⟨rfl, fun i x hx => ?_⟩
      match i, hx with
      | 0, hx => exact ⟨t10, by simpa using hx⟩
      | 1, hx => exact ⟨t13, by simpa using hx⟩
    refine stLocK (F12.after kk14) (X12.keeps kk14) (fun h15 F15 X15 hs15 => ?_)
    dsimp only
    have hS15 := isList_same hS14 hs15 (list_not_ns hS14 (F12.after kk14).ns)
    have hE15 := isList_same (isList_keeps hE12 kk14) hs15 (list_not_ns hE12 F12.ns)
    have z1 : (fun z => if z = Str.ofString "second" then some (Value.ref S) else m11 z) "second" = some (.ref S) := rfl
    have z2 : (fun z => if z = Str.ofString "second" then some (Value.ref S) else m11 z) "names" = some (.ref D2) := y2
    generalize (fun z => if z = Str.ofString "second" then some (Value.ref S) else m11 z) = m15 at F15 z1 z2
    have H15 := H.keeps F15.keep
    have hfit2 : ∀ r ∈ [line, y], RowFit r := fun r hr => by
      simp only [List.mem_cons, List.not_mem_nil, or_false] at hr
      rcases hr with rfl | rfl
      · exact hlf
      · exact hyF
    obtain ⟨o4, pm4, cd4, doc4, ho4, hd4, hcd4, hco4⟩ := H15.fn (114, "_law_scan", 27) (by decide)
    obtain ⟨o5, pm5, cd5, doc5, ho5, hd5, hcd5, hco5⟩ := H15.fn (107, "_law_line", 26) (by decide)
    refine wpAny_execs_cons ?_
    refine wpAny_Return_some ?_
    refine Call_ ?_
    refine ldOwnE H15 (by rfl) ?_
    refine callWith_def hd4 ?_
    refine args_cons ?_
    refine Call_ ?_
    refine ldOwnE H15 (by rfl) ?_
    refine callWith_def hd5 ?_
    refine args_cons ?_
    refine ldLoc F15 z1 ?_
    refine args_cons ?_
    refine ldLoc F15 z2 ?_
    refine args_nil ⟨ho5, ?_⟩
    refine law_line_spec H15 hh (by show A.depth + 1 + 1 < _; omega) hS15 hST hE15 hnT' (by show 2 ≤ 4; omega) (by show 2 ≤ _; omega) hfit2 hnmLen (fun h16 t16 k16 kk16 => ?_)
    dsimp only at kk16 ⊢
    have F16 := F15.after kk16
    refine args_cons ?_
    refine ldLoc F16 z1 ?_
    refine args_cons ?_
    refine ldLoc F16 z2 ?_
    refine args_nil ⟨kk16 _ _ ho4, ?_⟩
    exact law_scan_spec (H.keeps F16.keep) hh (by show A.depth + 1 + 3 < _; omega) (isList_keeps hS15 kk16) hST (isList_keeps hE15 kk16) hnT' (by show 1 ≤ 2; omega) (by show 2 ≤ 4; omega) (by show 2 ≤ _; omega) hfit2 hnmLen hnmFree (fun h17 k17 kk17 => hQ _ _ (Keeps.trans F16.keep kk17))
end
end Mine

namespace Mine
open PySem PySem.W PyProof.Rows PySem.Calls

/-! the text's objects, read out of what was written down of the heap -/
def fdOf : Data → FuncData
  | .func fd => fd
  | _ => default
def fieldOf (i : Nat) : Data → Value
  | .fields vs => vs.getD i .none
  | _ => .none
def seqOf : Data → Array Value
  | .seq vs _ => vs
  | _ => #[]
def capOf : Data → Nat
  | .seq _ n => n
  | _ => 0
def noObj : Obj := { cls := .none, data := .plain }
def objIn (K : Frag) (a : Addr) : Obj := (K.lookup a).getD noObj
def hasObj (K : Frag) (a : Addr) : Bool := (K.lookup a).isSome
theorem objIn_at {K : Frag} {h : Heap} {a : Addr} (X : K.In h) (e : hasObj K a = true) : h.get? a = some (objIn K a) := by
  unfold hasObj at e
  unfold objIn
  cases q : K.lookup a with
  | none => rw [q] at e; cases e
  | some o => exact X a o q

theorem fn_of {K : Frag} {h : Heap} {a : Addr} {name : Str} {k : Nat} (X : K.In h) (e : hasObj K a = true)
    (hd : (objIn K a).data = .func (docDef name (fnArgs k) (fnBody k) (fnScope k) (fdOf (objIn K a).data).pyModule (fdOf (objIn K a).data).code (fdOf (objIn K a).data).doc))
    (hc : codeIn K (fdOf (objIn K a).data).code name = true) (hcl : (objIn K a).cls = .type "function") : FnAt h a name k :=
  ⟨_, _, _, _, objIn_at X e, hd, codeRec_of X hc, hcl⟩

def textsB : List Value → List Str → Bool
  | [], [] => true
  | .str x _ :: r, y :: q => x.cps.toList == y.cps.toList && textsB r q
  | _, _ => false
theorem texts_of : ∀ {vs : List Value} {xs : List Str}, textsB vs xs = true → vs.length = xs.length ∧ ∀ (i : Nat) (x : Str), xs[i]? = some x → ∃ t : Tok, vs[i]? = some (Value.str x t)
  | [], [], _ => ⟨rfl, fun i x h => by simp at h⟩
  | [], _ :: _, h => by cases h
  | v :: _, [], h => by cases v <;> cases h
  | v :: r, y :: q, h => by
    cases v with
    | str x t =>
      have h' : (x.cps.toList == y.cps.toList && textsB r q) = true := h
      rw [Bool.and_eq_true] at h'
      obtain ⟨h1, h2⟩ := h'
      have e : x = y := Str.ext' (Array.toList_inj.mp (eq_of_beq h1))
      subst e
      obtain ⟨a1, a2⟩ := texts_of h2
      refine ⟨by rw [List.length_cons, List.length_cons, a1], fun i z hz => ?_⟩
      cases i with
      | zero =>
        have : x = z := by simpa using hz
        subst this
        exact ⟨t, by simp⟩
      | succ i =>
        obtain ⟨u, hu⟩ := a2 i z (by simpa using hz)
        exact ⟨u, by simpa using hu⟩
    | _ => cases h
theorem textsAre_of {items : Array Value} {xs : List Str} (h : textsB items.toList xs = true) : TextsAre items xs := by
  obtain ⟨h1, h2⟩ := texts_of h
  refine ⟨by rw [← Array.length_toList]; exact h1, fun i x hx => ?_⟩
  obtain ⟨t, ht⟩ := h2 i x hx
  exact ⟨t, by rw [← Array.getElem?_toList]; exact ht⟩

theorem all_of {α β : Type} {f g : α → β} {l : List α} (h : l.map f = l.map g) : ∀ x ∈ l, f x = g x := List.map_inj_left.mp h
theorem pair_of_lookup {α : Type} : ∀ {l : List (Str × α)} {x : Str} {v : α}, l.lookup x = some v → (x, v) ∈ l
  | [], _, _, h => by cases h
  | (y, w) :: r, x, v, h => by
    rw [List.lookup_cons] at h
    cases hb : x == y with
    | true => rw [hb] at h; cases h; rw [eq_of_beq hb]; exact .head _
    | false => rw [hb] at h; exact .tail _ (pair_of_lookup h)

/-- what is asked of the written heap, by evaluation -/
structure FragOk (K : Frag) : Prop where
  own : ownL.map (fun p => nsIn K mainGlobals p.1) = ownL.map (fun p => some (some p.2))
  free : bltL.map (fun p => nsIn K mainGlobals p.1) = bltL.map (fun _ => some none)
  has : ([59, 79, 86, 95, 100, 107, 114, 119, 67, 60, 36, 35, 44, 87, 88].all fun a => hasObj K a) = true
  code : (fnL.all fun p => codeIn K (fdOf (objIn K p.1).data).code p.2.1) = true
  cls : fnL.map (fun p => (objIn K p.1).cls) = fnL.map (fun _ => .type "function")
  fn : ∀ p ∈ fnL, (objIn K p.1).data = .func (docDef p.2.1 (fnArgs p.2.2) (fnBody p.2.2) (fnScope p.2.2) (fdOf (objIn K p.1).data).pyModule (fdOf (objIn K p.1).data).code (fdOf (objIn K p.1).data).doc)
  patCls : (objIn K 36).cls = .type "re.Pattern"
  patDict : (objIn K 36).dict = none
  patData : (objIn K 36).data = .fields #[fieldOf 0 (objIn K 36).data, fieldOf 1 (objIn K 36).data, .int 0 0, fieldOf 3 (objIn K 36).data, fieldOf 4 (objIn K 36).data, .ref 35, .int 0 0]
  patTup : (objIn K 35).data = .seq patTuple (capOf (objIn K 35).data)
  he : (objIn K 67).data = .func { docDef "header_encode" (fnArgs 14) (fnBody 14) (fnScope 14) (fdOf (objIn K 67).data).pyModule (fdOf (objIn K 67).data).code (fdOf (objIn K 67).data).doc with defaults := .ref 60 }
  heCode : codeIn K (fdOf (objIn K 67).data).code "header_encode" = true
  heDef : (objIn K 60).data = .seq #[(seqOf (objIn K 60).data).getD 0 .none] (capOf (objIn K 60).data)
  mapCls : (objIn K 44).cls = .type "list"
  mapData : (objIn K 44).data = .seq (seqOf (objIn K 44).data) (capOf (objIn K 44).data)
  mapIs : textsB (seqOf (objIn K 44).data).toList mapL = true
  nmCls : (objIn K 87).cls = .type "tuple"
  nmData : (objIn K 87).data = .seq (seqOf (objIn K 87).data) (capOf (objIn K 87).data)
  nmIs : textsB (seqOf (objIn K 87).data).toList namesL = true
  pcCls : (objIn K 88).cls = .type "tuple"
  pcData : (objIn K 88).data = .seq (seqOf (objIn K 88).data) (capOf (objIn K 88).data)
  pcIs : textsB (seqOf (objIn K 88).data).toList piecesL = true

theorem FragOk.obj {K : Frag} {h : Heap} (O : FragOk K) (X : K.In h) {a : Addr} (ha : a ∈ [59, 79, 86, 95, 100, 107, 114, 119, 67, 60, 36, 35, 44, 87, 88]) : h.get? a = some (objIn K a) :=
  objIn_at X (List.all_eq_true.mp O.has a ha)

theorem FragOk.hp {K : Frag} {h : Heap} {mg mb : Str → Option Value} (O : FragOk K) (X : K.In h) (g : h.Ns mainGlobals mg) (b : h.Ns builtinsNs mb) (nl : h.NoLimit) (hb : ∀ x v, bltL.lookup x = some v → mb x = some v) : Hp mg mb h where
  g := g
  b := b
  nolimit := nl
  own := fun x v e => mg_of X g (all_of O.own _ (pair_of_lookup e))
  blt := fun x v e => ⟨mg_none_of X g (all_of O.free _ (pair_of_lookup e)), hb x v e⟩
  fn := fun p hp => fn_of X (by
    have : p.1 ∈ [59, 79, 86, 95, 100, 107, 114, 119, 67, 60, 36, 35, 44, 87, 88] := by
      unfold fnL at hp
      simp only [List.mem_cons, List.not_mem_nil, or_false] at hp
      rcases hp with rfl | rfl | rfl | rfl | rfl | rfl | rfl <;> decide
    exact List.all_eq_true.mp O.has _ this) (O.fn p hp) (List.all_eq_true.mp O.code p hp) (all_of O.cls p hp)
  pat := ⟨_, _, _, _, _, _, _, O.obj X (by decide), O.patCls, O.patDict, O.patData, O.obj X (by decide), O.patTup⟩
  he := ⟨_, _, _, _, _, _, _, _, O.obj X (by decide), O.he, codeRec_of X O.heCode, O.obj X (by decide), O.heDef⟩
  map := ⟨_, ⟨_, O.obj X (by decide), O.mapCls, _, O.mapData⟩, textsAre_of O.mapIs⟩
  names := ⟨_, ⟨_, O.obj X (by decide), O.nmCls, _, O.nmData⟩, textsAre_of O.nmIs⟩
  pieces := ⟨_, ⟨_, O.obj X (by decide), O.pcCls, _, O.pcData⟩, textsAre_of O.pcIs⟩

theorem blt_boot : bltL.map (fun p => bootBuiltins p.1) = bltL.map (fun p => some p.2) := by kernel_rfl
theorem blt_name : bltL.all (fun p => p.1 != "__name__") = true := by decide +kernel
end Mine

namespace Mine
open PySem PySem.W PyProof.Rows
set_option maxHeartbeats 0
open_top hd for PySem.Challenge.rw_dm5001_01
end Mine
#check @Mine.hd

namespace Mine
open PySem PySem.W PyProof.Rows PySem.Calls
set_option maxHeartbeats 0
theorem frag_ok (P : Params) : FragOk (hd.heap_39 P) where
  own := by kernel_rfl
  free := by kernel_rfl
  has := by kernel_rfl
  code := by kernel_rfl
  cls := by kernel_rfl
  fn := fun p hp => by
    unfold fnL at hp
    simp only [List.mem_cons, List.not_mem_nil, or_false] at hp
    rcases hp with rfl | rfl | rfl | rfl | rfl | rfl | rfl
    · kernel_rfl
    · kernel_rfl
    · kernel_rfl
    · kernel_rfl
    · kernel_rfl
    · kernel_rfl
    · kernel_rfl
  patCls := by kernel_rfl
  patDict := by kernel_rfl
  patData := by kernel_rfl
  patTup := by kernel_rfl
  he := by kernel_rfl
  heCode := by kernel_rfl
  heDef := by kernel_rfl
  mapCls := by kernel_rfl
  mapData := by kernel_rfl
  mapIs := by kernel_rfl
  nmCls := by kernel_rfl
  nmData := by kernel_rfl
  nmIs := by kernel_rfl
  pcCls := by kernel_rfl
  pcData := by kernel_rfl
  pcIs := by kernel_rfl

theorem law_at (P : Params) : hasObj (hd.heap_39 P) 119 = true := by kernel_rfl
theorem law_data (P : Params) : (objIn (hd.heap_39 P) 119).data = .func (docDef "law" (fnArgs 28) (fnBody 28) (fnScope 28) (fdOf (objIn (hd.heap_39 P) 119).data).pyModule (fdOf (objIn (hd.heap_39 P) 119).data).code (fdOf (objIn (hd.heap_39 P) 119).data).doc) := by kernel_rfl
theorem law_code (P : Params) : codeIn (hd.heap_39 P) (fdOf (objIn (hd.heap_39 P) 119).data).code "law" = true := by kernel_rfl
theorem law_cls (P : Params) : (objIn (hd.heap_39 P) 119).cls = .type "function" := by kernel_rfl
theorem law_name (P : Params) : nsIn (hd.heap_39 P) mainGlobals "law" = some (some (.ref 119)) := by kernel_rfl

theorem law_holds : PySem.Challenge.rw_dm5001_01.Holds := hd (by
  intro w s₀ s₁ mg mb G Y fa o pm cd doc dV kV ho hd hcd hD hmg hg args vals as hpre hlay hrd hwl hlo
  have KX := kIn_of Y
  refine Ground.open G ?_
  intro T B D TE TW
  have hla : mg "law" = some (.ref 119) := mg_of KX T.g (law_name _)
  have hfa : fa = 119 := by
    have h1 : mg "law" = some (.ref fa) := hmg
    rw [hla] at h1
    cases h1
    rfl
  subst hfa
  clear hmg hD hcd hd ho
  wrow_args hpre hlay hrd hwl hlo
  have H : Hp mg mb s₁.heap := (frag_ok w.params).hp KX T.g T.b T.nolimit (fun x v e => by
    rw [T.builtins x (fun q => by
      have := List.all_eq_true.mp blt_name _ (pair_of_lookup e)
      rw [q] at this
      cases this)]
    exact all_of blt_boot _ (pair_of_lookup e))
  have HL : FnAt s₁.heap 119 "law" 28 := fn_of KX (law_at _) (law_data _) (law_code _) (law_cls _)
  refine law_spec H HL rfl (by decide) (by decide) (by assumption) (by assumption) (by omega) (fun h' tk' hk => ?_)
  refine ⟨.inl ⟨_, _, [], rfl, fun _ => rfl, ReadsW.bool true, ?_, fun _ => ⟨List.nodup_nil, fun _ hm => nomatch hm⟩⟩, .of_keep hk, rfl, .of_eq hg⟩
  wrow_post)
end Mine

theorem PySem.Challenge.cw_dm5001_01_holds : PySem.Challenge.rw_dm5001_01.Holds :=
  Mine.law_holds
