import PyProof.Rows.All
import Wide.All
import OpenK.AllK
import Wide.FinOn
import PyProof.ExcStrAll.ValueError
import PyProof.Rows.StrClose5
import Lean
import PySem.Challenge.RW_il0002_01
set_option Elab.async false
section -- HD
open PySem PySem.W PyProof.Rows
namespace Mine
set_option maxRecDepth 100000 in
set_option maxHeartbeats 8000000 in
open_top hd for PySem.Challenge.rw_il0002_01
end Mine
end

section -- S1
open PySem PySem.W PyProof.Rows
set_option maxRecDepth 100000
namespace Mine
theorem off_S1 : True := by (w_top off; trivial)
abbrev reCode : Array Nat := #[14, 12, 4, 1, 1, 21, 22, 48, 57, 22, 65, 70, 0, 13, 9, 21, 22, 48, 57, 22, 65, 70, 0, 1]
def foreign (c : Nat) : Bool := !((decide (48 ≤ c) && decide (c ≤ 57)) || (decide (65 ≤ c) && decide (c ≤ 70)))

theorem set_neg {code : Array Nat} {c f i : Nat} {yes : Bool} {seen : Sre.Seen} (h : code.getD i 0 = 21) :
    Sre.inSet code c (f + 1) i yes seen = Sre.inSet code c f (i + 1) (!yes) (seen.add 21) := by
  rw [Sre.inSet]; simp only [Nat.add_zero, h]; rfl
theorem set_range {code : Array Nat} {c f i lo hi : Nat} {yes : Bool} {seen : Sre.Seen} (h : code.getD i 0 = 22) (h1 : code.getD (i + 1) 0 = lo) (h2 : code.getD (i + 2) 0 = hi) :
    Sre.inSet code c (f + 1) i yes seen = if (decide (lo ≤ c) && decide (c ≤ hi)) = true then .ok (yes, seen.add 22) else Sre.inSet code c f (i + 3) yes (seen.add 22) := by
  rw [Sre.inSet]; simp only [Nat.add_zero, h, h1, h2]; rfl
theorem set_fail {code : Array Nat} {c f i : Nat} {yes : Bool} {seen : Sre.Seen} (h : code.getD i 0 = 0) :
    Sre.inSet code c (f + 1) i yes seen = .ok (!yes, seen.add 0) := by
  rw [Sre.inSet]; simp only [Nat.add_zero, h]; rfl
theorem inSet_of {i : Nat} (hi : i = 5 ∨ i = 15) (c : Nat) (seen : Sre.Seen) : ∃ seen', Sre.inSet reCode c 24 i true seen = .ok (foreign c, seen') := by
  unfold foreign
  have h0 : reCode.getD i 0 = 21 := by rcases hi with rfl | rfl <;> rfl
  have h1 : reCode.getD (i + 1) 0 = 22 ∧ reCode.getD (i + 1 + 1) 0 = 48 ∧ reCode.getD (i + 1 + 2) 0 = 57 := by rcases hi with rfl | rfl <;> exact ⟨rfl, rfl, rfl⟩
  have h2 : reCode.getD (i + 1 + 3) 0 = 22 ∧ reCode.getD (i + 1 + 3 + 1) 0 = 65 ∧ reCode.getD (i + 1 + 3 + 2) 0 = 70 := by rcases hi with rfl | rfl <;> exact ⟨rfl, rfl, rfl⟩
  have h3 : reCode.getD (i + 1 + 3 + 3) 0 = 0 := by rcases hi with rfl | rfl <;> rfl
  rw [set_neg h0, set_range h1.1 h1.2.1 h1.2.2, set_range h2.1 h2.2.1 h2.2.2, set_fail h3]
  by_cases a : (decide (48 ≤ c) && decide (c ≤ 57)) = true
  · rw [if_pos a, a]; exact ⟨_, rfl⟩
  · rw [if_neg a]
    have a' := Bool.not_eq_true _ ▸ a
    by_cases b : (decide (65 ≤ c) && decide (c ≤ 70)) = true
    · rw [if_pos b, b, Bool.or_true]; exact ⟨_, rfl⟩
    · rw [if_neg b]
      simp only [Bool.not_eq_true] at a b
      rw [a, b]; exact ⟨_, rfl⟩

/-- the first-set scan from s on -/
theorem admitted_of (m : Sre.M) (hc : m.code = reCode) (hl : m.lim = m.text.size) : ∀ (fuel s : Nat) (seen : Sre.Seen), m.text.size + 1 - s ≤ fuel →
    (∃ p seen', Sre.M.admitted m fuel s seen = .ok (some p, seen') ∧ s ≤ p ∧ p < m.text.size ∧ foreign (m.text.getD p 0) = true) ∨
    (∃ seen', Sre.M.admitted m fuel s seen = .ok (none, seen') ∧ ∀ p, s ≤ p → p < m.text.size → foreign (m.text.getD p 0) = false)
  | 0, s, seen, hf => .inr ⟨seen, rfl, fun p h1 h2 => by omega⟩
  | fuel + 1, s, seen, hf => by
    rw [Sre.M.admitted]
    by_cases hs : s ≥ m.lim
    · rw [if_pos hs]
      exact .inr ⟨seen, rfl, fun p h1 h2 => by omega⟩
    · rw [if_neg hs]
      obtain ⟨seen', he⟩ := inSet_of (.inl rfl) (m.text.getD s 0) seen
      have hsz : m.code.size = 24 := by rw [hc]; rfl
      rw [hsz, hc, he]
      cases hq : foreign (m.text.getD s 0) with
      | true => exact .inl ⟨s, seen', rfl, Nat.le_refl _, by omega, hq⟩
      | false =>
        rcases admitted_of m hc hl fuel (s + 1) seen' (by omega) with ⟨p, s2, e, h1, h2, h3⟩ | ⟨s2, e, h1⟩
        · exact .inl ⟨p, s2, e, by omega, h2, h3⟩
        · refine .inr ⟨s2, e, fun p h2 h3 => ?_⟩
          by_cases hp : p = s
          · rw [hp]; exact hq
          · exact h1 p (by omega) h3

theorem run_one {n : Nat} {m : Sre.M} (h : m.outcome = none) : Sre.M.runFor (n + 1) m = Sre.M.runFor n m.step := by
  rw [Sre.M.runFor, h]; rfl
theorem run_out {n : Nat} {m : Sre.M} {o : Sre.Outcome} (h : m.outcome = some o) : Sre.M.runFor n m = m := by
  cases n with
  | zero => rfl
  | succ n => rw [Sre.M.runFor, h]; rfl
theorem run_said {n : Nat} {m : Sre.M} (h : m.outcome = none) (ha : m.answer = some false) (hf : m.frames = []) : (Sre.M.runFor (n + 1) m).outcome = some .failed := by
  rw [run_one h]
  have e : m.step = { m with outcome := some .failed } := by
    unfold Sre.M.step
    rw [h, ha, hf]; rfl
  rw [e, run_out (o := .failed) rfl]
theorem run_found (m : Sre.M) (hc : m.code = reCode) (h : m.outcome = none) (ha : m.answer = none) (hf : m.frames = []) (hw : m.weight = 0) (hwt : m.wholeText = false) (hma : m.mustAdvance = false) (hpc : m.pc = 13)
    (p : Nat) (hp : p < m.lim) (hq : foreign (m.text.getD p 0) = true) : (Sre.M.runFor 4 (m.attemptAt p true)).outcome = some .matched := by
  obtain ⟨code, text, lim, start, lastStart, wt, ma, pc, pos, handed, om, marks, lm, li, loops, inner, frames, weight, answer, seen, outcome⟩ := m
  simp only at hc h ha hf hw hwt hma hpc hp hq
  subst hc h ha hf hw hwt hma hpc
  obtain ⟨seen1, he⟩ := inSet_of (.inr rfl) (text.getD p 0) (seen.add 13)
  rw [hq] at he
  have hat : Sre.M.attemptAt { code := reCode, text, lim, start, lastStart, wholeText := false, mustAdvance := false, pc := 13, pos, handed, outermost := om, marks, lastmark := lm, lastindex := li, loops, inner, frames := [], weight := 0, answer := none, seen, outcome := none } p true
      = { code := reCode, text, lim, start := p, lastStart, wholeText := false, mustAdvance := false, pc := 13, pos := p, handed := p, outermost := true, marks, lastmark := -1, lastindex := -1, loops, inner, frames := [{ wait := .nextStart, pc := 13, pos := p, outermost := true }], weight := 1, answer := none, seen, outcome := none } := rfl
  rw [hat, run_one rfl]
  have h1 : Sre.M.step { code := reCode, text, lim, start := p, lastStart, wholeText := false, mustAdvance := false, pc := 13, pos := p, handed := p, outermost := true, marks, lastmark := -1, lastindex := -1, loops, inner, frames := [{ wait := .nextStart, pc := 13, pos := p, outermost := true }], weight := 1, answer := none, seen, outcome := none }
      = { code := reCode, text, lim, start := p, lastStart, wholeText := false, mustAdvance := false, pc := 23, pos := p + 1, handed := p, outermost := true, marks, lastmark := -1, lastindex := -1, loops, inner, frames := [{ wait := .nextStart, pc := 13, pos := p, outermost := true }], weight := 1, answer := none, seen := seen1, outcome := none } := by
    refine Eq.trans (b := Sre.M.exec { code := reCode, text, lim, start := p, lastStart, wholeText := false, mustAdvance := false, pc := 13, pos := p, handed := p, outermost := true, marks, lastmark := -1, lastindex := -1, loops, inner, frames := [{ wait := .nextStart, pc := 13, pos := p, outermost := true }], weight := 1, answer := none, seen, outcome := none }) rfl ?_
    unfold Sre.M.exec
    show (if p ≥ lim then _ else match Sre.accepts reCode 13 (text.getD p 0) (seen.add 13) with | .error why => _ | .ok (false, seen) => _ | .ok (true, seen) => _) = _
    rw [if_neg (by omega)]
    have ea : Sre.accepts reCode 13 (text.getD p 0) (seen.add 13) = .ok (true, seen1) := he
    rw [ea]
    rfl
  rw [h1]
  rfl
theorem drive_one {n : Nat} {m : Sre.M} {o : Sre.Outcome} (h : (m.runFor 4).outcome = some o) : Builtin.Re.reDrive (n + 1) m = pure (m.runFor 4) := by
  rw [Builtin.Re.reDrive]
  show (if (m.runFor 4).outcome.isSome = true then _ else _) = _
  rw [h]; rfl

/-- what the machine says of a text -/
theorem drive_of (text : Array Nat) : ∃ m, Builtin.Re.reDrive (2 ^ 64) (Sre.forSearch reCode text 0 0 text.size false) = pure m ∧
    m.outcome = some (if text.toList.any foreign then .matched else .failed) := by
  have key : (Sre.M.runFor 4 (Sre.forSearch reCode text 0 0 text.size false)).outcome = some (if text.toList.any foreign then .matched else .failed) := by
    have hmem : ∀ p, p < text.size → text.getD p 0 ∈ text.toList := fun p hp => by
      rw [Array.getD_eq_getD_getElem?, Array.getElem?_eq_getElem hp]
      exact Array.getElem_mem_toList hp
    by_cases h0 : text.size = 0
    · have : text = #[] := Array.eq_empty_of_size_eq_zero h0
      subst this
      rfl
    · have e : Sre.forSearch reCode text 0 0 text.size false = Sre.M.attemptFrom { code := reCode, text, lim := text.size, start := 0, lastStart := text.size, pc := 13, pos := 0, handed := 0, marks := #[], mustAdvance := false, seen := ({} : Sre.Seen).add 14 } 0 true := by
        unfold Sre.forSearch
        show (if (decide (0 > text.size) || decide (text.size - 0 < 1)) = true then _ else _) = _
        rw [if_neg (by simp only [Bool.or_eq_true, decide_eq_true_eq]; omega)]
        rfl
      rw [e]
      generalize hm : ({ code := reCode, text, lim := text.size, start := 0, lastStart := text.size, pc := 13, pos := 0, handed := 0, marks := #[], mustAdvance := false, seen := ({} : Sre.Seen).add 14 } : Sre.M) = m
      have hat : Sre.M.attemptFrom m 0 true = match Sre.M.admitted m (m.lim + 1 - 0) 0 m.seen with
          | .ok (some s, seen) => ({ m with mustAdvance := false, seen } : Sre.M).attemptAt s true
          | .ok (none, seen) => ({ m with seen } : Sre.M).say false
          | .error why => m.stick why := by subst hm; rfl
      rw [hat]
      have hlim : m.lim = m.text.size := by subst hm; rfl
      have htx : m.text = text := by subst hm; rfl
      rcases admitted_of m (by subst hm; rfl) hlim (m.lim + 1 - 0) 0 m.seen (by rw [hlim]; omega) with ⟨p, s2, e1, _, h2, h3⟩ | ⟨s2, e1, h1⟩
      · rw [e1]
        rw [if_pos (List.any_eq_true.mpr ⟨_, hmem p (by rw [← htx]; exact h2), by rw [← htx]; exact h3⟩)]
        refine run_found _ ?_ ?_ ?_ ?_ ?_ ?_ ?_ ?_ p (by show p < m.lim; rw [hlim]; exact h2) h3 <;> subst hm <;> rfl
      · rw [e1]
        have hno : text.toList.any foreign = false := by
          rw [List.any_eq_false]
          intro c hc
          obtain ⟨i, hi, rfl⟩ := List.getElem_of_mem hc
          have hi' : i < text.size := by simpa using hi
          have := h1 i (Nat.zero_le _) (by rw [htx]; exact hi')
          rw [htx, Array.getD_eq_getD_getElem?, Array.getElem?_eq_getElem hi'] at this
          simpa using this
        rw [hno]
        exact run_said (by subst hm; rfl) rfl (by subst hm; rfl)
  exact ⟨_, drive_one (n := 2 ^ 64 - 1) key, key⟩
end Mine
end

section -- B1
open PySem PySem.W PyProof.Rows
set_option maxRecDepth 100000
namespace Mine
theorem off_B1 : True := by (w_top off; trivial)
open Builtin Builtin.Str
def enc (x : Str) : Array UInt8 := x.cps.map (·.toUInt8)

theorem foldl_bytes (l : List Nat) : ∀ acc : Array UInt8, l.foldl (fun acc y => acc ++ (_codecs.asciiCodec.bytesOf y).toArray) acc = acc ++ (l.map (·.toUInt8)).toArray := by
  induction l with
  | nil => intro acc; simp
  | cons a l ih =>
    intro acc
    rw [List.foldl_cons, ih]
    simp [_codecs.asciiCodec]

theorem forIn_two {σ : Type} {n : Nat} {init fin : σ} {f : Nat → σ → Sem (ForInStep σ)} (h1 : 0 < n → f 0 init = pure (.yield fin)) (h2 : ∀ k, f k fin = pure (.done fin)) (h0 : n = 0 → init = fin) :
    (forIn (List.range' 0 n) init f : Sem σ) = pure fin := by
  cases n with
  | zero => rw [h0 rfl]; rfl
  | succ n =>
    rw [List.range'_succ, List.forIn_cons, h1 (Nat.succ_pos _)]
    show (forIn (List.range' (0 + 1) n) fin f : Sem σ) = pure fin
    cases n with
    | zero => rfl
    | succ n => rw [List.range'_succ, List.forIn_cons, h2]; rfl

theorem narrow_ascii (id : String) (self : Value) (x : Str) (hx : ∀ c ∈ x.cps.toList, c < 128) (hz : x.cps.size ≤ sizeLine) : _codecs.encodeNarrow id _codecs.asciiCodec none self x = pure (enc x) := by
  have hbad : ∀ c ∈ x.cps.toList, _codecs.asciiCodec.bad c = false := fun c hc => decide_eq_false (Nat.not_le.mpr (hx c hc))
  unfold _codecs.encodeNarrow
  simp only [Std.Legacy.Range.forIn_eq_forIn_range', Std.Legacy.Range.size]
  have hn : (x.length - 0 + 1 - 1) / 1 = x.cps.size := by show (x.cps.size - 0 + 1 - 1) / 1 = _; omega
  rw [hn]
  refine Eq.trans (congrArg (fun t => t >>= fun s => pure s.snd.fst) (forIn_two (fin := (x.cps.size, enc x, ({} : _codecs.Faults))) ?_ ?_ ?_)) rfl
  · intro h0
    dsimp only
    rw [if_neg (by show ¬ (0 > sizeLine); omega)]
    obtain ⟨c, hc⟩ : ∃ c, x.cps[0]? = some c := ⟨_, Array.getElem?_eq_getElem h0⟩
    have hm : c ∈ x.cps.toList := by
      rw [← Array.getElem?_toList] at hc
      exact List.mem_of_getElem? hc
    rw [hc]
    dsimp only
    rw [if_pos (by rw [hbad c hm]; rfl)]
    have hex : x.cps.extract 0 = x.cps := Array.extract_size
    have hf : Array.findIdx? _codecs.asciiCodec.bad x.cps = none := by
      rw [Array.findIdx?_eq_none_iff]
      intro c hc
      exact hbad c (by simpa using hc)
    rw [hex, hf]
    dsimp only [Option.getD]
    rw [hex, Nat.zero_add, ← Array.foldl_toList, foldl_bytes]
    have he : (x.cps.toList.map (·.toUInt8)).toArray = x.cps.map (·.toUInt8) := by apply Array.ext'; simp
    rw [he, Array.empty_append]; rfl
  · intro k
    dsimp only
    rw [if_neg (by have : (enc x).size = x.cps.size := by simp [enc]
                   omega)]
    have hnone : x.cps[x.cps.size]? = none := by simp
    rw [hnone]
  · intro h0
    have : x.cps = #[] := Array.eq_empty_of_size_eq_zero h0
    unfold enc
    rw [this]; simp

theorem road_ascii (id : String) (self : Value) (x : Str) (errors : Option Str) : _codecs.encodeRoad id self x (Str.ofString "ascii") errors = (do mkBytes (← _codecs.encodeNarrow id _codecs.asciiCodec errors self x)) := by
  first | rfl | (unfold _codecs.encodeRoad; rfl) | (unfold _codecs.encodeRoad; simp only []; rfl) | decide
theorem gives_encode (x : Str) (t u : Tok) (hx : ∀ c ∈ x.cps.toList, c < 128) (hz : x.cps.size ≤ sizeLine) :
    Gives («str.encode» ⟨[.str x t, .str (Str.ofString "ascii") u], []⟩) (.bytes (enc x)) := by
  have e : «str.encode» ⟨[.str x t, .str (Str.ofString "ascii") u], []⟩ = (do ret (← _codecs.encodeRoad "str.encode" (.str x t) x (Str.ofString "ascii") none)) := by kernel_rfl
  rw [e, road_ascii, narrow_ascii _ _ _ hx hz]
  exact .of_eq rfl
section
variable {prog : Program} {w : World} {A : Around} {E : Value → Shared → Prop} {s : Shared}
theorem encode_ascii {x : Str} {t u : Tok} {Q : Value → Shared → Prop} (hx : ∀ c ∈ x.cps.toList, c < 128) (hz : x.cps.size ≤ sizeLine)
    (h : ∀ t' k, Q (.bytes (enc x) t') { s with toks := k }) : wpAny (model prog w) A (call (.builtin "str.encode") [.str x t, .str (Str.ofString "ascii") u]) Q E s :=
  call_gives F.slot_str_encode (typeIs_str _ _ _) F.entry_str_encode (F.args_str_encode_2 _ _) (gives_encode x t u hx hz) ⟨by simpa [enc] using hz, h _ _⟩
theorem getMethod_encode {x : Str} {t : Tok} {pl : Sem Bool} {Q : Value × List Value → Shared → Prop} (h : Q (.builtin "str.encode", [.str x t]) s) :
    wpAny (model prog w) A (getMethod (.str x t) (Str.ofString "encode") pl) Q E s :=
  getMethod_builtin (typeIs_str _ _ _) F.plainAttrs_str F.slot_str_encode F.type_str_encode (fun _ e => nomatch e) h
end

theorem slot_bytes_upper : Slot "bytes" "upper" "bytes.upper" :=
  .of (owner := "bytes") (n := "upper") (by rw [typeLookup_type, builtinLookup_eq_fast]; kernel_rfl) (by decide +kernel) (by decide +kernel) (by decide +kernel)
    (by first | exact .inl (by decide +kernel) | exact .inr (by decide +kernel)) (by rw [isSubtype_type]; kernel_rfl)
theorem type_bytes_upper : typeOf (.builtin "bytes.upper") = pure (.type "method_descriptor") := by show builtinType _ = _; rw [builtinType_eq_fast]; kernel_rfl
theorem entry_bytes_upper : entryFor table "bytes.upper" = some Builtin.«bytes.upper» := entryFor_of_tree (by kernel_rfl)
theorem args_bytes_upper (a : Value) : argsOk "bytes.upper" ⟨[a], []⟩ := by
  unfold argsOk; kernel_rfl
def up (b : Array UInt8) : Array UInt8 := (b.toList.map Bytes.toUpper).toArray
theorem gives_upper (b : Array UInt8) (t : Tok) : Gives («bytes.upper» ⟨[.bytes b t], []⟩) (.bytes (up b)) := by
  exact .of_eq rfl
section
variable {prog : Program} {w : World} {A : Around} {E : Value → Shared → Prop} {s : Shared}
theorem bytes_upper {b : Array UInt8} {t : Tok} {Q : Value → Shared → Prop} (hz : b.size ≤ sizeLine)
    (h : ∀ t' k, Q (.bytes (up b) t') { s with toks := k }) : wpAny (model prog w) A (call (.builtin "bytes.upper") [.bytes b t]) Q E s :=
  call_gives slot_bytes_upper (typeIs_bytes _ _ _) entry_bytes_upper (args_bytes_upper _) (gives_upper b t) ⟨by simpa [up] using hz, h _ _⟩
theorem getMethod_upper {b : Array UInt8} {t : Tok} {pl : Sem Bool} {Q : Value × List Value → Shared → Prop} (h : Q (.builtin "bytes.upper", [.bytes b t]) s) :
    wpAny (model prog w) A (getMethod (.bytes b t) (Str.ofString "upper") pl) Q E s :=
  getMethod_builtin (typeIs_bytes _ _ _) FB.plainAttrs_bytes slot_bytes_upper type_bytes_upper (fun _ e => nomatch e) h
end

theorem plainAttrs_pat : PlainAttrs "re.Pattern" :=
  ⟨⟨"object.__getattribute__", by rw [typeLookup_type, builtinLookup_eq_fast]; kernel_rfl, by decide +kernel⟩, by rw [typeLookup_type, builtinLookup_eq_fast]; kernel_rfl⟩
theorem slot_pat_search : Slot "re.Pattern" "search" "re.Pattern.search" :=
  .of (owner := "re.Pattern") (n := "search") (by rw [typeLookup_type, builtinLookup_eq_fast]; kernel_rfl) (by decide +kernel) (by decide +kernel) (by decide +kernel)
    (by first | exact .inl (by decide +kernel) | exact .inr (by decide +kernel)) (by rw [isSubtype_type]; kernel_rfl)
theorem type_pat_search : typeOf (.builtin "re.Pattern.search") = pure (.type "method_descriptor") := by show builtinType _ = _; rw [builtinType_eq_fast]; kernel_rfl
theorem entry_pat_search : entryFor table "re.Pattern.search" = some Builtin.«re.Pattern.search» := entryFor_of_tree (by kernel_rfl)
theorem args_pat_search (a b : Value) : argsOk "re.Pattern.search" ⟨[a, b], []⟩ := by
  unfold argsOk; kernel_rfl
end Mine
end

section -- B2
open PySem PySem.W PyProof.Rows
set_option maxRecDepth 100000
namespace Mine
theorem off_B2 : True := by (w_top off; trivial)
open Builtin Builtin.Str Builtin.Re

theorem forIn_rules {M : Model} {A : Around} {E : Value → Shared → Prop} {s : Shared} (c : Nat → Bool) (g : Nat → String) : ∀ (l : List Nat) (Q : PUnit → Shared → Prop), Q ⟨⟩ s →
    wpAny M A (forIn l PUnit.unit fun i _ => if c i = true then (do rule (g i); pure (ForInStep.yield PUnit.unit)) else pure (ForInStep.yield PUnit.unit)) Q E s
  | [], Q, h => wpAny_pure h
  | i :: l, Q, h => by
    rw [List.forIn_cons]
    refine wpAny_bind ?_
    by_cases hc : c i = true
    · rw [if_pos hc]
      exact wpAny_bind (wpAny_rule (wpAny_pure (forIn_rules c g l Q h)))
    · rw [if_neg hc]
      exact wpAny_pure (forIn_rules c g l Q h)
theorem run_to_end {M : Model} {A : Around} {E : Value → Shared → Prop} {s : Shared} (text : Array Nat) {Q : Option Sre.M → Shared → Prop}
    (h0 : text.toList.any foreign = false → Q none s) (h1 : text.toList.any foreign = true → ∀ m, Q (some m) s) :
    wpAny M A (reRunToEnd (Sre.forSearch reCode text 0 0 text.size false)) Q E s := by
  obtain ⟨m, e, ho⟩ := drive_of text
  unfold reRunToEnd
  rw [e]
  refine wpAny_bind (wpAny_pure ?_)
  refine wpAny_bind (forIn_rules _ _ _ _ ?_)
  rw [ho]
  cases hq : text.toList.any foreign with
  | true => exact wpAny_pure (h1 hq m)
  | false => exact wpAny_pure (h0 hq)

abbrev patObj (pat : Array UInt8) (C : Addr) (t1 t2 t3 t4 : Tok) : Obj := { cls := .type "re.Pattern", data := .fields #[.bytes pat t1, .int 0 t2, .int 0 t3, .none, .none, .ref C, .int 1 t4] }
theorem named_search (f : String) (v : Value) : reNamed "re.Pattern.search" f ["string", "pos", "endpos"] 1 [v] [] = pure [some v, none, none] := by kernel_rfl
theorem target_search {M : Model} {A : Around} {E : Value → Shared → Prop} {s : Shared} {P C : Addr} {pat b : Array UInt8} {t1 t2 t3 t4 t : Tok} {items : Array Value} {n : Nat} {oc : Obj}
    (hP : s.heap.get? P = some (patObj pat C t1 t2 t3 t4)) (hC : s.heap.get? C = some oc) (hd : oc.data = .seq items n) (hi : (items.map reRawOf).map (·.toNat) = reCode) {Q : ReTarget → Shared → Prop}
    (hz : b.size < 2 ^ 63)
    (h : Q { pattern := .ref P, string := .bytes b t, code := reCode, text := b.map (·.toNat), kind := 1, groups := 0, pos := 0, lim := (b.map (·.toNat)).size } s) :
    wpAny M A (reTarget "re.Pattern.search" "search" ⟨[.ref P, .bytes b t], []⟩) Q E s := by
  unfold reTarget
  dsimp only
  rw [named_search]
  refine wpAny_bind (wpAny_pure ?_)
  dsimp only
  refine wpAny_bind (wpAny_pure ?_)
  refine wpAny_bind (wpAny_pure ?_)
  refine wpAny_bind (wpAny_fieldsOf hP rfl ?_)
  have htext : reTextOf (.bytes b t) = pure (b.map (·.toNat), 1) := by
    unfold reTextOf
    show (Bytes.bufferQuiet? "_sre" (.bytes b t) >>= fun r => _) = _
    rw [KBy.quiet_eq]; rfl
  rw [htext]
  refine wpAny_bind (wpAny_pure ?_)
  dsimp only
  rw [if_neg (by exact Bool.false_ne_true)]
  have hno : reNoCollectionInside (.bytes b t) 1 = pure () := by
    unfold reNoCollectionInside
    rw [KBy.isInstance_eq]; rfl
  rw [hno]
  refine wpAny_bind (wpAny_pure ?_)
  have hit : wpAny M A (reRawItems (.ref C)) (fun r s' => r = items.map reRawOf ∧ s' = s) E s := by
    unfold reRawItems
    exact wpAny_bind (wpAny_seqItems hC hd (wpAny_pure ⟨rfl, rfl⟩))
  refine wpAny_bind (wpAny_mono hit (fun r s' hr => ?_) fun _ _ e => e)
  obtain ⟨rfl, rfl⟩ := hr
  refine wpAny_pure ?_
  rw [hi]
  have hlim : Min.min ((2 : Int) ^ 63 - 1).toNat (b.map (·.toNat)).size = (b.map (·.toNat)).size := by
    have : ((2 : Int) ^ 63 - 1).toNat = 2 ^ 63 - 1 := by decide
    rw [this, Array.size_map]; omega
  rw [hlim]
  exact h

abbrev matchObj (P : Addr) (b : Array UInt8) (t : Tok) (T : Addr) (i : Int) (lim : Int) : Obj :=
  { cls := .type "re.Match", data := .fields #[.bytes b t, .ref P, rawInt 0, rawInt lim, rawInt i, .ref T] }
theorem pat_search {prog : Program} {w : World} {A : Around} {E : Value → Shared → Prop} {s : Shared} {P C : Addr} {pat b : Array UInt8} {t1 t2 t3 t4 t : Tok} {items : Array Value} {n : Nat} {oc : Obj}
    (hP : s.heap.get? P = some (patObj pat C t1 t2 t3 t4)) (hC : s.heap.get? C = some oc) (hd : oc.data = .seq items n) (hi : (items.map reRawOf).map (·.toNat) = reCode) {Q : Value → Shared → Prop}
    (hz : b.size < 2 ^ 63)
    (h0 : (b.map (·.toNat)).toList.any foreign = false → Q .none s)
    (h1 : (b.map (·.toNat)).toList.any foreign = true → ∀ M ob h', (∀ a o, s.heap.get? a = some o → h'.get? a = some o) → s.heap.objs.size ≤ M → h'.get? M = some ob → ob.cls = .type "re.Match" → Q (.ref M) { s with heap := h' }) :
    wpAny (model prog w) A (call (.builtin "re.Pattern.search") [.ref P, .bytes b t]) Q E s := by
  refine call_meets (S := fun _ R s' => s' = s ∧ ((b.map (·.toNat)).toList.any foreign = false → R (.ok (.ret .none)) s) ∧
    ((b.map (·.toNat)).toList.any foreign = true → ∀ M ob h', (∀ a o, s.heap.get? a = some o → h'.get? a = some o) → s.heap.objs.size ≤ M → h'.get? M = some ob → ob.cls = .type "re.Match" → R (.ok (.ret (.ref M))) { s with heap := h' }))
    slot_pat_search ⟨_, hP, rfl⟩ entry_pat_search (args_pat_search _ _) (.of_wp fun prog w A R s' hS => ?_) ⟨rfl, h0, h1⟩
  obtain ⟨rfl, r0, r1⟩ := hS
  show wpAny _ _ (reTarget "re.Pattern.search" "search" ⟨[.ref P, .bytes b t], []⟩ >>= fun t => reAnswer t (Sre.forSearch t.code t.text t.groups t.pos t.lim false)) _ _ _
  refine wpAny_bind (target_search hP hC hd hi hz ?_)
  show wpAny _ _ (reRunToEnd _ >>= fun r => _) _ _ _
  refine wpAny_bind (run_to_end _ (fun e => ?_) fun e m => ?_)
  · exact wpAny_pure ⟨_, rfl, r0 e⟩
  · show wpAny _ _ (reNewMatch _ _ 0 _ _ m >>= fun v => ret v) _ _ _
    refine wpAny_bind ?_
    unfold reNewMatch
    dsimp only
    rw [if_neg (by exact Bool.false_ne_true)]
    refine wpAny_bind (wpAny_newTuple ?_ (by rw [sizeLine_eq]; exact (by decide : 2 ≤ 16777216)))
    refine wpAny_newObj_type (wpAny_pure ⟨_, rfl, ?_⟩) (by size_fits)
    exact r1 e _ _ _ (fun a o ho => Heap.get?_push_of_some _ (Heap.get?_push_of_some _ ho)) (by rw [Heap.size_push]; omega) (Heap.get?_push_size _ rfl) rfl
end Mine
end

section -- B3
open PySem PySem.W PyProof.Rows
set_option maxRecDepth 100000
namespace Mine
theorem off_B3 : True := by (w_top off; trivial)
open Builtin Builtin.Str Builtin.Re
section
variable {M : Model} {A : Around} {E : Value → Shared → Prop} {s : Shared}
theorem truthy_typed {a : Addr} {T : String} {Q : Bool → Shared → Prop} (hT : s.TypeIs (.ref a) T) (hb : typeLookup (.type T) "__bool__" = pure none) (hl : typeLookup (.type T) "__len__" = pure none)
    (h : Q true s) : wpAny M A (truthy (.ref a)) Q E s := by
  unfold truthy
  dsimp only
  unfold callSpecial?
  refine wpAny_bind (wpAny_bind (wpAny_specialOf hT hb (wpAny_pure ?_)))
  exact wpAny_bind (wpAny_specialOf hT hl (wpAny_pure h))
theorem truthOfDropped_typed {a : Addr} {T : String} {Q : Bool → Shared → Prop} (hT : s.TypeIs (.ref a) T) (hb : typeLookup (.type T) "__bool__" = pure none) (hl : typeLookup (.type T) "__len__" = pure none)
    (h : Q true s) : wpAny M A (truthOfDropped (.ref a)) Q E s := by
  unfold truthOfDropped
  exact wpAny_bind (wpAny_onRaise (wpAny_holding (truthy_typed hT hb hl (wpAny_bind (wpAny_point (wpAny_pure h))))))
end
theorem match_no_bool : typeLookup (.type "re.Match") "__bool__" = pure none := by rw [typeLookup_type, builtinLookup_eq_fast]; kernel_rfl
theorem match_no_len : typeLookup (.type "re.Match") "__len__" = pure none := by rw [typeLookup_type, builtinLookup_eq_fast]; kernel_rfl
theorem function_no_bool : typeLookup (.type "function") "__bool__" = pure none := by rw [typeLookup_type, builtinLookup_eq_fast]; kernel_rfl
theorem function_no_len : typeLookup (.type "function") "__len__" = pure none := by rw [typeLookup_type, builtinLookup_eq_fast]; kernel_rfl
theorem allNe_of_lt {l : List (Addr × Obj)} {d : Addr} (h : ∀ p ∈ l, p.1 < d) : ∀ p ∈ l, p.1 ≠ d := fun p hp => Nat.ne_of_lt (h p hp)
theorem allLt_back {d : Addr} : ∀ {l : List (Addr × Obj)}, AllLt d l → ∀ p ∈ l, p.1 < d
  | [], _, _, h => nomatch h
  | q :: _, h, p, hp => by
    rcases List.mem_cons.mp hp with rfl | hp
    · exact h.1
    · exact allLt_back h.2 p hp
def Halt (P : Prop) : Prop := P
theorem Halt.mk {P : Prop} (h : Halt P) : P := h
theorem Halt.out {P : Prop} (h : P) : Halt P := h
end Mine
end

section -- HX
open PySem PySem.W PyProof.Rows
set_option maxRecDepth 100000
namespace Mine
theorem off_HX : True := by (w_top off; trivial)
theorem bytes_item {prog : Program} {w : World} {A : Around} {E : Value → Shared → Prop} {s : Shared} {value slice : PySem.Expr} {b : Array UInt8} {t ui : Tok} {i : Int} {Q : Value → Shared → Prop}
    (hfit : b.size ≤ 1099511627776) (h0 : 0 ≤ i) (h1 : i < (b.size : Int)) (h : ∀ t' k, Q (.int ((b.toList.getD i.toNat 0).toNat : Int) t') { s with toks := k })
    (hs : subscripted slice false (.bytes b t) (.int i ui) = operate [.bytes b t, .int i ui] (getItem (.bytes b t) (.int i ui)) := by with_unfolding_all rfl)
    (ht : ∀ r, letTemporaryGo value (.bytes b t) r = pure () := by intro _; with_unfolding_all rfl) :
    wpAny (model prog w) A (subscriptTail value slice (.bytes b t) (.int i ui)) Q E s := by
  obtain ⟨l⟩ := b
  exact KBy.item_N (x := l) (by simpa using hfit) h0 (by simpa using h1) (h _ _) hs ht
def pairsI : List Int → List Int
  | a :: b :: r => (a * 16 + b) :: pairsI r
  | _ => []
theorem pairsI_take : ∀ (j : Nat) (l : List Int), 2 * j + 2 ≤ l.length → pairsI (l.take (2 * j + 2)) = pairsI (l.take (2 * j)) ++ [l.getD (2 * j) 0 * 16 + l.getD (2 * j + 1) 0]
  | 0, a :: b :: r, _ => by simp [pairsI]
  | 0, [_], h => by simp at h
  | 0, [], h => by simp at h
  | j + 1, a :: b :: r, h => by
    have ih := pairsI_take j r (by simp only [List.length_cons] at h; omega)
    have e1 : 2 * (j + 1) + 2 = (2 * j + 2) + 1 + 1 := by omega
    have e2 : 2 * (j + 1) = 2 * j + 1 + 1 := by omega
    rw [e1, e2, List.take_succ_cons, List.take_succ_cons, List.take_succ_cons, List.take_succ_cons]
    simp only [pairsI]
    rw [ih]
    simp
  | j + 1, [_], h => by simp at h
  | j + 1, [], h => by simp at h
theorem pairsI_len : ∀ l : List Int, 2 * (pairsI l).length ≤ l.length
  | a :: b :: r => by have := pairsI_len r; simp only [pairsI, List.length_cons]; omega
  | [_] => by simp [pairsI]
  | [] => by simp [pairsI]
theorem pairsI_mem : ∀ (l : List Int), (∀ x ∈ l, 0 ≤ x ∧ x < 16) → ∀ y ∈ pairsI l, 0 ≤ y ∧ y < 256
  | a :: b :: r, h, y, hy => by
    simp only [pairsI, List.mem_cons] at hy
    rcases hy with rfl | hy
    · have := h a (by simp); have := h b (by simp); omega
    · exact pairsI_mem r (fun x hx => h x (by simp [hx])) y hy
  | [_], _, y, hy => by simp [pairsI] at hy
  | [], _, y, hy => by simp [pairsI] at hy
theorem hv_at {b : Array UInt8} (f : UInt8 → Int) (hkn : ∀ x ∈ b.toList.map f, 0 ≤ x ∧ x < 16) {i : Nat} (h : i < b.size) : 0 ≤ f (b.toList.getD i 0) ∧ f (b.toList.getD i 0) < 16 := by
  have h' : i < b.toList.length := by simpa using h
  refine hkn _ (List.mem_map.mpr ⟨_, ?_, rfl⟩)
  rw [List.getD_eq_getElem?_getD, List.getElem?_eq_getElem h']
  exact List.getElem_mem h'
theorem ints_append : ∀ {vs ws : List Value} {ns ms : List Int}, IntsAre vs ns → IntsAre ws ms → IntsAre (vs ++ ws) (ns ++ ms)
  | _, _, _, _, .nil, h => h
  | _, _, _, _, .cons n t r, h => .cons n t (ints_append r h)
def hvI (c : Int) : Int := if 48 ≤ c ∧ c ≤ 57 then c - 48 else if 65 ≤ c ∧ c ≤ 70 then c - 55 else if 97 ≤ c ∧ c ≤ 102 then c - 87 else 16
section
variable {w : World} {p : Program} {loose : List Str} {mean : ExcName → Option Value} {mg mb : Str → Option Value}
  {dp un : Nat} {gd : Option (List Code)} {cn : Str} {cs : Scope} {a : Addr} {ccd : Value} {cl : List (Str × Addr)} {outer : List Env} {A₀ : Around} {base h₀ : Heap} {L : Addr} {m : Str → Option Value} {news : List (Addr × Obj)} {s : Shared} {Q E : Value → Shared → Prop}
variable (B : Below A₀ base outer h₀) (F : Fr h₀ L s.heap m) (KX : (hd.heap_39 w.params).In h₀) (N : News h₀ L s.heap news) (T : Top p loose mean mg mb h₀) (hk : cs.kind = .function)
  (hdp : dp + 2 < recursionLimit)
include B F KX N T hk hdp
set_option maxHeartbeats 8000000 in
theorem hex_spec (c : Int) (t : Tok)
  (hret : ∀ (t : Tok) (h' : Heap) (tk' : Nat), Fr h₀ L h' m → News h₀ L h' news → Q (.int (hvI c) t) { s with heap := h', toks := tk' }) :
  wpAny (model PySem.Challenge.rw_il0002_01.row.prog w) (ktrTop dp un gd cn cs L a ccd cl outer) (call (.ref 78) [.int c t]) Q E s := by
  revert KX; k_fill; intro KX
  refine wpAny_call ?_
  k_dflt cell_enter
  k_steps
  all_goals (
    (rename Fr h₀ L _ m => kF)
    (rename News h₀ L _ news => kN)
    refine cb_retI hret ?_ kF kN
    unfold hvI
    repeat' split
    all_goals omega)
end
end Mine
end

section -- A1
open PySem PySem.W PyProof.Rows
set_option maxRecDepth 100000
namespace Mine
theorem off_A1 : True := by (w_top off; trivial)
section
variable {w : World} {p : Program} {loose : List Str} {mean : ExcName → Option Value} {mg mb : Str → Option Value}
  {dp un : Nat} {gd : Option (List Code)} {cn : Str} {cs : Scope} {a : Addr} {ccd : Value} {cl : List (Str × Addr)} {outer : List Env} {A₀ : Around} {base h₀ : Heap} {L : Addr} {m : Str → Option Value} {news : List (Addr × Obj)} {s : Shared} {Q E : Value → Shared → Prop}
variable (B : Below A₀ base outer h₀) (F : Fr h₀ L s.heap m) (KX : (hd.heap_39 w.params).In h₀) (N : News h₀ L s.heap news) (T : Top p loose mean mg mb h₀) (hk : cs.kind = .function)
  (hdp : dp + 4 < recursionLimit)
include B F KX N T hk hdp
local macro_rules | `(tactic| k_room) => `(tactic| ktr_room)
local macro_rules | `(tactic| walk_at "call type:type") => `(tactic| (k_here; (with_reducible show wpAny _ _ (call (Value.type "type") [Value.bytes _ _]) _ _ _); refine call_type_of (typeIs_bytes _ _ _) (by decide +kernel) ?_))
local macro_rules | `(tactic| walk_at "call type:type") => `(tactic| (k_here; (with_reducible show wpAny _ _ (call (Value.type "type") [Value.str _ _]) _ _ _); refine call_type_of (typeIs_str _ _ _) (by decide +kernel) ?_))
local macro_rules | `(tactic| walk_at "call ref") => `(tactic| (k_here; (with_reducible show wpAny _ _ (call (Value.ref 78) [Value.int _ _]) _ _ _); k_dflt (refine' hex_spec ?B ?F ?K ?N ?T ?k ?d _ _ ?_; (case B => k_asm); (case F => k_asm); (case K => k_asm); (case N => k_asm); (case T => k_asm); (case k => first | exact rfl | assumption); (case d => ktr_room); intro t9 h9 tk9 F9 N9; (try dsimp only); (try k_sweep))))
local macro_rules | `(tactic| walk_at "subscriptTail") => `(tactic| (k_here; (with_reducible show wpAny _ _ (subscriptTail _ _ (Value.bytes _ _) (Value.int _ _)) _ _ _); (refine bytes_item ?z ?a ?b ?_; (case z => omega); (case a => omega); (case b => omega)); intro t9 k9))
local macro_rules | `(tactic| k_all) => `(tactic| first | exact allNe_of_lt (by assumption) | exact allNe_of_lt (allLt_back (by assumption)))
local macro_rules | `(tactic| walk_at "call builtin:list.append") => `(tactic| (k_here; (with_reducible show wpAny _ _ (call (Value.builtin _) [Value.ref _, _]) _ _ _); k_dflt (refine' append_K ?k1 ?k2 ?k3 ?_ ?z; (case k1 => k_asm); (case k2 => k_asm); (case k3 => k_upd); (case z => (rw [PySem.sizeLine_eq]; omega)); k_whole); intro h' F' N'; (try k_sweep)))
local macro_rules | `(tactic| ksw_same) => `(tactic| (intro z h2 h3; (simp only [List.forall_mem_cons, List.not_mem_nil, false_implies, implies_true, and_true, ne_eq] at h2); (have h4 := h3); (simp only [List.contains_cons, List.contains_nil, Bool.or_false, Bool.or_eq_false_iff, beq_eq_false_iff_ne, ne_eq] at h4); (simp [kstB, h2, h3, h4]; done)))
local macro_rules | `(tactic| walk_at "exec While Compare cons nil") => `(tactic| refine Halt.mk ?_)
set_option maxHeartbeats 8000000 in
theorem a2b_spec (b : Array UInt8) (t : Tok) (hz : b.size ≤ 1000) (he : b.size % 2 = 0) (hkn : ∀ x ∈ b.toList.map (fun c => hvI (c.toNat : Int)), 0 ≤ x ∧ x < 16)
  (hret : ∀ (t : Tok) (h' : Heap) (tk' : Nat), Fr h₀ L h' m → News h₀ L h' news → Q (.bytes ((pairsI (b.toList.map fun c => hvI (c.toNat : Int))).map fun n => n.toNat.toUInt8).toArray t) { s with heap := h', toks := tk' }) :
  wpAny (model PySem.Challenge.rw_il0002_01.row.prog w) (ktrTop dp un gd cn cs L a ccd cl outer) (call (.ref 85) [.bytes b t]) Q E s := by
  revert KX; k_fill; intro KX
  refine wpAny_call ?_
  k_dflt cell_enter
  k_steps
  · exfalso
    have e : ((b.size : Int)).fmod 2 = 0 := by rw [Int.fmod_eq_emod_of_nonneg _ (by decide)]; omega
    exact absurd e (by assumption)
  · with_reducible refine Halt.out ?_
    rename Fr _ _ _ _ => F1
    rename News _ _ _ _ => N1
    refine' ksw_while (σ := Nat × Tok × List Value × Nat) (fun c => (?l, W.listOf c.2.2.1.toArray c.2.2.2) :: news) (fun c => [("i", .int (2 * (c.1 : Int)) c.2.1)]) (fun _ => True) ["top", "bot"]
      (fun c => 2 * c.1 ≤ b.size ∧ c.2.2.1.length ≤ c.1 ∧ IntsAre c.2.2.1 (pairsI ((b.toList.map fun c => hvI (c.toNat : Int)).take (2 * c.1)))) (fun c => b.size - 2 * c.1) (0, ?tk, [], 0) F1 N1 ?hf ?hk ?hp ?turn ?hE
    case hk => kst_all
    case hf => trivial
    case hE => passes_own
    case hp => exact ⟨Nat.zero_le _, Nat.le_refl _, IntsAre.nil⟩
    case turn =>
      rintro ⟨j, ti, items, ep⟩ u h tk _ ⟨hj, hs, hI⟩ F2 N2
      dsimp only at hj hs hI F2 N2
      have hsz : items.toArray.size ≤ j := by simpa using hs
      clear F1 N1
      by_cases hlt : 2 * j < b.size
      · have e1 : (2 * (j : Int)).toNat = 2 * j := by omega
        have e2 : (2 * (j : Int) + 1).toNat = 2 * j + 1 := by omega
        have h1 := hv_at (fun c => hvI (c.toNat : Int)) hkn (i := (2 * (j : Int)).toNat) (by omega)
        have h2 := hv_at (fun c => hvI (c.toNat : Int)) hkn (i := (2 * (j : Int) + 1).toNat) (by omega)
        obtain ⟨h1a, h1b⟩ := h1
        obtain ⟨h2a, h2b⟩ := h2
        k_steps
        · rename Fr _ _ _ _ => F3
          rename News _ _ _ _ => N3
          simp only [List.push_toArray] at N3
          refine' ksw_end (j + 1, ?tk2, ?it2, ?ep2) F3 N3 (fun p hp => hp) trivial ?kk (by ksw_same) ?pp ?mm
          case kk => (intro p hp; cases List.mem_singleton.mp hp; (have e : (2 * ((j + 1 : Nat) : Int)) = 2 * (j : Int) + 2 := by omega); dsimp only; rw [e]; rfl)
          case mm => show b.size - 2 * (j + 1) < b.size - 2 * j; omega
          case pp =>
            refine ⟨?_, ?_, ?_⟩
            · show 2 * (j + 1) ≤ b.size; omega
            · simp only [List.length_append, List.length_cons, List.length_nil]; omega
            · dsimp only
              rw [Nat.mul_succ, pairsI_take _ _ (by simp; omega)]
              refine ints_append hI ?_
              have hg : ∀ i, i < b.size → (b.toList.map fun c => hvI (c.toNat : Int)).getD i 0 = hvI ((b.toList.getD i 0).toNat : Int) := fun i hi => by
                have hi' : i < b.toList.length := by simpa using hi
                simp only [List.getD_eq_getElem?_getD, List.getElem?_map, List.getElem?_eq_getElem hi']
                rfl
              rw [e1, e2, hg _ hlt, hg _ (by omega)]
              exact .cons _ _ .nil
      · have ej : (b.toList.map fun c => hvI (c.toNat : Int)).take (2 * j) = b.toList.map fun c => hvI (c.toNat : Int) := List.take_of_length_le (by simp; omega)
        rw [ej] at hI
        k_steps
        rename Fr _ _ _ _ => F3
        rename News _ _ _ _ => N3
        refine bytes_K F3 N3 ⟨_, (N3 _ (.head _)).1, rfl, _, rfl⟩ hI (pairsI_mem _ hkn) (by rw [PySem.sizeLine_eq]; omega) rfl ?_
        intro h5 t5 k5 F5 N5 _
        clear F3 N3
        k_steps
        rename Fr h₀ L _ m => kF
        rename News h₀ L _ _ => kN
        exact hret _ _ _ kF (cb_drop kN fun p hp => List.mem_cons_of_mem _ hp)
end
end Mine
end

section -- RB
open PySem PySem.W PyProof.Rows
set_option maxRecDepth 100000
namespace Mine
theorem off_RB : True := by (w_top off; trivial)
section
variable {prog : Program} {w : World} {A : Around} {E : Value → Shared → Prop} {s : Shared} {K : Frag} {h₀ : Heap} {L : Addr} {m : Str → Option Value} {news : List (Addr × Obj)}
theorem K_at {a : Addr} {o : Obj} (F : Fr h₀ L s.heap m) (X : K.In h₀) (hl : K.lookup a = some o) : s.heap.get? a = some o := (X.keeps F.keep) _ _ hl
theorem pat_method {P C : Addr} {pat : Array UInt8} {t1 t2 t3 t4 : Tok} {pl : Sem Bool} {Q : Value × List Value → Shared → Prop} (F : Fr h₀ L s.heap m) (X : K.In h₀) (hl : K.lookup P = some (patObj pat C t1 t2 t3 t4))
    (h : Q (.builtin "re.Pattern.search", [.ref P]) s) : wpAny (model prog w) A (getMethod (.ref P) (Str.ofString "search") pl) Q E s :=
  getMethod_builtin ⟨_, K_at F X hl, rfl⟩ plainAttrs_pat slot_pat_search type_pat_search (fun a e => by cases e; exact ⟨_, K_at F X hl, rfl⟩) h
theorem pat_no {P C : Addr} {pat b : Array UInt8} {t1 t2 t3 t4 t : Tok} {items : Array Value} {n : Nat} {sl : Array (Option Value)} {dd : Option Addr} {Q : Value → Shared → Prop} (F : Fr h₀ L s.heap m) (X : K.In h₀)
    (hP : K.lookup P = some (patObj pat C t1 t2 t3 t4)) (hC : K.lookup C = some ⟨.type "tuple", dd, .seq items n, sl⟩) (hi : (items.map Builtin.Re.reRawOf).map (·.toNat) = reCode) (hz : b.size ≤ 1000)
    (hf : (b.map (·.toNat)).toList.any foreign = false) (h : Q .none s) : wpAny (model prog w) A (call (.builtin "re.Pattern.search") [.ref P, .bytes b t]) Q E s :=
  pat_search (K_at F X hP) (K_at F X hC) rfl hi (by omega) (fun _ => h) fun e => by rw [hf] at e; cases e
theorem pat_yes {P C : Addr} {pat b : Array UInt8} {t1 t2 t3 t4 t : Tok} {items : Array Value} {n : Nat} {sl : Array (Option Value)} {dd : Option Addr} {Q : Value → Shared → Prop} (F : Fr h₀ L s.heap m) (N : News h₀ L s.heap news) (X : K.In h₀)
    (hP : K.lookup P = some (patObj pat C t1 t2 t3 t4)) (hC : K.lookup C = some ⟨.type "tuple", dd, .seq items n, sl⟩) (hi : (items.map Builtin.Re.reRawOf).map (·.toNat) = reCode) (hz : b.size ≤ 1000)
    (hf : (b.map (·.toNat)).toList.any foreign = true) (h : ∀ M h', Fr h₀ L h' m → News h₀ L h' news → Shared.TypeIs { s with heap := h' } (.ref M) "re.Match" → Q (.ref M) { s with heap := h' }) :
    wpAny (model prog w) A (call (.builtin "re.Pattern.search") [.ref P, .bytes b t]) Q E s :=
  pat_search (K_at F X hP) (K_at F X hC) rfl hi (by omega) (fun e => by rw [hf] at e; cases e) fun _ M ob h' hk _ ho hc => h M h' (F.keeps hk) (fun q hq => ⟨hk _ _ (N q hq).1, (N q hq).2⟩) ⟨ob, ho, hc⟩
end
def dec (b : Array UInt8) : Array UInt8 := ((pairsI (b.toList.map fun c => hvI (c.toNat : Int))).map fun n => n.toNat.toUInt8).toArray
def rdB (fo : Bool) (x : Str) : Array UInt8 := if fo then up (enc x) else enc x
def frn (b : Array UInt8) : Bool := (b.map (·.toNat)).toList.any foreign
theorem known_of {b : Array UInt8} (h : frn b = false) : ∀ x ∈ b.toList.map (fun c => hvI (c.toNat : Int)), 0 ≤ x ∧ x < 16 := by
  intro x hx
  obtain ⟨c, hc, rfl⟩ := List.mem_map.mp hx
  have h1 := List.any_eq_false.mp h c.toNat (by simp only [Array.toList_map]; exact List.mem_map.mpr ⟨c, hc, rfl⟩)
  unfold foreign at h1
  have h2 : (48 ≤ c.toNat ∧ c.toNat ≤ 57) ∨ (65 ≤ c.toNat ∧ c.toNat ≤ 70) := by
    simp at h1
    omega
  unfold hvI
  split
  · omega
  · split
    · omega
    · split <;> omega
/-- what _law_read answers -/
def ReadAns (fo : Bool) (x : Str) (v : Value) : Prop :=
  if frn (rdB fo x) = true then ∃ t, v = .str (Str.ofString "foreign") t
  else if (rdB fo x).size % 2 = 1 then ∃ t, v = .str (Str.ofString "odd") t
  else ∃ t, v = .bytes (dec (rdB fo x)) t
theorem enc_size (x : Str) : (enc x).size = x.cps.size := by simp [enc]
theorem up_size (b : Array UInt8) : (up b).size = b.size := by simp [up]
end Mine
end

section -- C1
open PySem PySem.W PyProof.Rows
set_option maxRecDepth 100000
namespace Mine
theorem off_C1 : True := by (w_top off; trivial)
open Builtin Builtin.Str Builtin.BaseException Builtin.Exceptions PySem.Calls
section
variable {prog : Program} {w : World} {A : Around} {E : Value → Shared → Prop} {s : Shared} {K : Frag} {e t0 C : Addr} {oe : Obj} {ws : Array Value} {m : Str} {tk : Tok}
def ExcOwn (h : Heap) (e C t0 : Addr) (m : Str) (tk : Tok) : Prop := (∃ oe ws, h.get? e = some oe ∧ oe.cls = .ref C ∧ oe.data = .fields ws ∧ ws[0]? = some (.ref t0)) ∧ h.TupAt t0 [.str m tk]
theorem bexcStr_own {Q : Fin → Shared → Prop} (x : ExcOwn s.heap e C t0 m tk) (hq : Q (.done (.ret (.str m tk))) s) :
    wpAny (model prog w) A (Builtin.«BaseException.__str__» ⟨[.ref e], []⟩) Q E s := by
  obtain ⟨⟨oe, ws, ho, hc, hd, h0⟩, ot, k, hto, _, htd⟩ := x
  have args : ∀ Q' : Value × List Value → Shared → Prop, Q' (.ref t0, [.str m tk]) s → wpAny (model prog w) A (bexcArgs (.ref e)) Q' E s := fun Q' hq' => by
    unfold bexcArgs
    refine wpAny_bind (wpAny_field ho hd h0 (wpAny_bind (wpAny_seqItems hto htd ?_)))
    show wpAny _ A (pure (Value.ref t0, [Value.str m tk].toArray.toList)) Q' E s
    exact wpAny_pure hq'
  unfold Builtin.«BaseException.__str__»
  repeat (first | with_reducible refine args _ ?_ | wp_step)
  exact hq
theorem kind_bexc_str : builtinKind "BaseException.__str__" = some .slot ∨ builtinKind "BaseException.__str__" = some .method := by first | exact .inl (by decide +kernel) | exact .inr (by decide +kernel)
theorem split_bexc_str : splitId "BaseException.__str__" = some ("BaseException", "__str__") := by decide +kernel
theorem call_bexcStr_own (X : K.In s.heap) {Q : Value → Shared → Prop} (x : ExcOwn s.heap e C t0 m tk) (hs : subIn K (.ref C) (.type "BaseException") = some true) (hq : Q (.str m tk) s) :
    wpAny (model prog w) A (call (.builtin "BaseException.__str__") [.ref e]) Q E s := by
  refine wpAny_call (codeAny_call_builtin (by decide +kernel) F.entry_bexc_str ?_)
  obtain ⟨oe, ws, ho, hc, hd, h0⟩ := id x.1
  have hin : ∀ Q' : Bool → Shared → Prop, ∀ E', Q' true s → wpAny (model prog w) A.in1 (isInstance (.ref e) (.type "BaseException")) Q' E' s := fun Q' E' hq' => by
    unfold isInstance
    refine wpAny_bind ?_
    show wpAny _ _ (loadPart e (some headPart) >>= fun o => pure o.cls) _ _ _
    refine wpAny_bind (wpAny_loadPart ho (wpAny_pure ?_))
    rw [hc]
    exact (looks_subIn X hs).here hq'
  have fin : wpAny (model prog w) A.in1 (Builtin.«BaseException.__str__» ⟨[.ref e], []⟩) (fun fin s' => match fin with
      | .done f => (match (Except.ok f : Result) with | .ok (.ret v) => Q v s' | .ok _ => False | .error e => E e s')
      | .again c' => c'.quiet = true ∧ codeAny (model prog w) A c' (fun r s' => match r with | .ok (.ret v) => Q v s' | .ok _ => False | .error e => E e s') s')
      (fun e s' => E e s') s := bexcStr_own x hq
  have ha := F.args_bexc_str (.ref e)
  rcases kind_bexc_str with h | h <;>
  · simp only [checkBuiltinCall, h, split_bexc_str]
    refine wpAny_bind (hin _ _ ?_)
    simp only [Bool.not_true, Bool.false_eq_true, if_false]
    cases hsig : Manifest.signature? "BaseException.__str__" with
    | none => exact wpAny_pure fin
    | some sig =>
      simp only [argsOk, hsig] at ha
      have h2 : Bind.checkArgs "BaseException.__str__" sig ⟨[.ref e], []⟩ = pure () := ha
      show wpAny _ _ (Bind.checkArgs "BaseException.__str__" sig ⟨[.ref e], []⟩) _ _ s
      rw [h2]; exact wpAny_pure fin
theorem strOf_own (X : K.In s.heap) (hu : A.units < cLine) {Q : Value → Shared → Prop} (x : ExcOwn s.heap e C t0 m tk) (hf : findIn K (.ref C) "__str__" = some (some (.builtin "BaseException.__str__")))
    (hs : subIn K (.ref C) (.type "BaseException") = some true) (hq : Q (.str m tk) s) : wpAny (model prog w) A (Builtin.Str.strOf (.ref e)) Q E s := by
  obtain ⟨oe, ws, ho, hc, hd, h0⟩ := id x.1
  have hsp : ∀ Q' : Option Value → Shared → Prop, Q' (some (.str m tk)) s → wpAny (model prog w) A (callSpecial? (.ref e) "__str__") Q' E s := fun Q' hq' => by
    unfold callSpecial? specialOf
    refine wpAny_bind (wpAny_bind ?_)
    show wpAny _ _ (loadPart e (some headPart) >>= fun o => pure o.cls) _ _ _
    refine wpAny_bind (wpAny_loadPart ho (wpAny_pure ?_))
    rw [hc]
    refine (looks_findIn X hf).here ?_
    dsimp only
    refine wpAny_holding ?_
    rw [F.excStr_ValueError.str.bind]
    exact wpAny_bind (wpAny_pure (wpAny_bind (call_bexcStr_own X x hs (wpAny_pure hq'))))
  unfold Builtin.Str.strOf
  repeat (first | with_reducible refine wpAny_cRoomFor hu ?_ | with_reducible refine hsp _ ?_ | wp_step)
  exact hq
theorem str_of_own (X : K.In s.heap) (hu : A.units + 2 < cLine) {Q : Value → Shared → Prop} (x : ExcOwn s.heap e C t0 m tk) (hf : findIn K (.ref C) "__str__" = some (some (.builtin "BaseException.__str__")))
    (hs : subIn K (.ref C) (.type "BaseException") = some true) (h : Q (.str m tk) s) :
    wpAny (model prog w) A (call (.type "str") [.ref e]) Q E s :=
  callType_new F.called_str (by decide) (F.typeCall_str_1 _) (F.newCall_str_1 _) (fun obj => F.args_object_init_2 obj _) F.entry_str_new
    (meets_str_new (S := fun A' R s' => A'.units + 1 < cLine ∧ K.In s'.heap ∧ ExcOwn s'.heap e C t0 m tk ∧ R (.ok (.ret (.str m tk))) s')
      fun _ _ A' _ _ hq => strOf_own (A := A'.in1) hq.2.1 hq.1 hq.2.2.1 hf hs hq.2.2.2)
    ⟨(show A.units + 1 + 1 < cLine from hu), X, x, typeIs_str _ _ _, h⟩
end
theorem excOwn_of {h₀ h : Heap} {L : Addr} {n₂ : List (Addr × Obj)} {e t C : Addr} {m : Str} {tk : Tok} (N : News h₀ L h n₂) (G : Got n₂ e t (.ref C) [.str m tk]) : ExcOwn h e C t m tk := by
  obtain ⟨oe, ot, ws, nt, h1, h2, h3, h4, h5, h6, h7⟩ := G
  exact ⟨⟨oe, ws, (N _ h1).1, h3, h4, h5⟩, ot, nt, (N _ h2).1, h6, h7⟩
end Mine
end

section -- RD
open PySem PySem.W PyProof.Rows
set_option maxRecDepth 100000
namespace Mine
theorem off_RD : True := by (w_top off; trivial)
section
variable {w : World} {p : Program} {loose : List Str} {mean : ExcName → Option Value} {mg mb : Str → Option Value}
  {cn : Str} {cs : Scope} {a : Addr} {ccd : Value} {h₀ : Heap} {L : Addr} {m : Str → Option Value} {news : List (Addr × Obj)} {s : Shared} {Q E : Value → Shared → Prop}
variable (B : Below callerA h₀ [] h₀) (F : Fr h₀ L s.heap m) (KX : (hd.heap_39 w.params).In h₀) (N : News h₀ L s.heap news) (T : Top p loose mean mg mb h₀) (hk : cs.kind = .function)
include B F KX N T hk
local macro_rules | `(tactic| k_room) => `(tactic| ktr_room)
local macro_rules | `(tactic| walk_at "call type:type") => `(tactic| (k_here; (with_reducible show wpAny _ _ (call (Value.type "type") [Value.bytes _ _]) _ _ _); refine call_type_of (typeIs_bytes _ _ _) (by decide +kernel) ?_))
local macro_rules | `(tactic| walk_at "call type:type") => `(tactic| (k_here; (with_reducible show wpAny _ _ (call (Value.type "type") [Value.str _ _]) _ _ _); refine call_type_of (typeIs_str _ _ _) (by decide +kernel) ?_))
local macro_rules | `(tactic| walk_at "call ref") => `(tactic| (k_here; (with_reducible show wpAny _ _ (call (Value.ref 78) [Value.int _ _]) _ _ _); k_dflt (refine' hex_spec ?B ?F ?K ?N ?T ?k ?d _ _ ?_; (case B => k_asm); (case F => k_asm); (case K => k_asm); (case N => k_asm); (case T => k_asm); (case k => first | exact rfl | assumption); (case d => ktr_room); intro t9 h9 tk9 F9 N9; (try dsimp only); (try k_sweep))))
local macro_rules | `(tactic| walk_at "subscriptTail") => `(tactic| (k_here; (with_reducible show wpAny _ _ (subscriptTail _ _ (Value.bytes _ _) (Value.int _ _)) _ _ _); (refine bytes_item ?z ?a ?b ?_; (case z => omega); (case a => omega); (case b => omega)); intro t9 k9))
local macro_rules | `(tactic| k_all) => `(tactic| first | exact allNe_of_lt (by assumption) | exact allNe_of_lt (allLt_back (by assumption)))
local macro_rules | `(tactic| walk_at "call builtin:list.append") => `(tactic| (k_here; (with_reducible show wpAny _ _ (call (Value.builtin _) [Value.ref _, _]) _ _ _); k_dflt (refine' append_K ?k1 ?k2 ?k3 ?_ ?z; (case k1 => k_asm); (case k2 => k_asm); (case k3 => k_upd); (case z => (rw [PySem.sizeLine_eq]; omega)); k_whole); intro h' F' N'; (try k_sweep)))
local macro_rules | `(tactic| ksw_same) => `(tactic| (intro z h2 h3; (simp only [List.forall_mem_cons, List.not_mem_nil, false_implies, implies_true, and_true, ne_eq] at h2); (have h4 := h3); (simp only [List.contains_cons, List.contains_nil, Bool.or_false, Bool.or_eq_false_iff, beq_eq_false_iff_ne, ne_eq] at h4); (simp [kstB, h2, h3, h4]; done)))
local macro_rules | `(tactic| walk_at "call ref") => `(tactic| (k_here; (with_reducible show wpAny _ _ (call (Value.ref 85) [Value.bytes _ _]) _ _ _); k_dflt (refine' a2b_spec ?B ?F ?K ?N ?T ?k ?d _ _ ?z ?e ?kn ?_; (case B => k_asm); (case F => k_asm); (case K => k_asm); (case N => k_asm); (case T => k_asm); (case k => first | exact rfl | assumption); (case d => ktr_room); (case z => omega); (case e => assumption); (case kn => exact known_of (by assumption)); intro t9 h9 tk9 F9 N9; (try dsimp only); (try k_sweep))))
local macro_rules | `(tactic| walk_at "getMethod str") => `(tactic| (k_here; with_reducible refine getMethod_encode ?_))
local macro_rules | `(tactic| walk_at "getMethod bytes") => `(tactic| (k_here; with_reducible refine getMethod_upper ?_))
local macro_rules | `(tactic| walk_at "call builtin:str.encode") => `(tactic| (k_here; (refine encode_ascii ?a ?b ?_; (case a => assumption); (case b => (rw [PySem.sizeLine_eq]; omega))); intro t9 k9))
local macro_rules | `(tactic| walk_at "call builtin:bytes.upper") => `(tactic| (k_here; (refine bytes_upper ?b ?_; (case b => (rw [PySem.sizeLine_eq]; omega))); intro t9 k9))
local macro_rules | `(tactic| walk_at "getMethod ref") => `(tactic| (k_here; (with_reducible show wpAny _ _ (getMethod (Value.ref 43) _ _) _ _ _); k_dflt (refine' pat_method ?F ?X ?l ?_; (case F => k_asm); (case X => k_asm); (case l => k_is))))
local macro_rules | `(tactic| walk_at "call builtin:re.Pattern.search") => `(tactic| (k_here; k_dflt (first
  | (refine' pat_no ?F ?X ?l ?c ?i ?z ?f ?_; (case f => assumption); (case F => k_asm); (case X => k_asm); (case l => k_is); (case c => k_is); (case i => kernel_rfl); (case z => omega))
  | (refine' pat_yes ?F ?N ?X ?l ?c ?i ?z ?f ?_; (case f => assumption); (case F => k_asm); (case N => k_asm); (case X => k_asm); (case l => k_is); (case c => k_is); (case i => kernel_rfl); (case z => omega); intro M9 h9 F9 N9 T9; (try k_sweep)))))
local macro_rules | `(tactic| walk_at "truthy ref") => `(tactic| (k_here; refine truthy_typed (by assumption) match_no_bool match_no_len ?_))
local macro_rules | `(tactic| walk_at "truthOfDropped ref") => `(tactic| (k_here; refine truthOfDropped_typed (by assumption) match_no_bool match_no_len ?_))
local macro_rules | `(tactic| walk_at "call type:str") => `(tactic| (k_here; (with_reducible show wpAny _ _ (call (Value.type "str") [Value.ref _]) _ _ _); (with_reducible rename Got _ _ _ _ _ => gX); k_dflt (refine' str_of_own ?X ?u (excOwn_of ?N gX) ?f ?s ?_; (case X => k_in); (case u => exact Nat.le_of_ble_eq_true rfl); (case N => k_asm); (case f => k_is); (case s => k_is))))
local macro_rules | `(tactic| walk_at "exec While Compare cons nil") => `(tactic| refine Halt.mk ?_)
set_option maxHeartbeats 8000000 in
theorem read_f0 (x : Str) (tx : Tok) (hx : ∀ c ∈ x.cps.toList, c < 128) (hz : x.cps.size ≤ 1000) (hf : frn (enc x) = true)
  (hret : ∀ (t : Tok) (h' : Heap) (tk' : Nat), Fr h₀ L h' m → News h₀ L h' news → Q (.str (Str.ofString "foreign") t) { s with heap := h', toks := tk' }) :
  wpAny (model PySem.Challenge.rw_il0002_01.row.prog w) (callerA.deeper (envOf cn cs L a ccd)) (call (.ref 121) [.str x tx, .bool false]) Q E s := by
  revert KX; k_fill; intro KX
  have hf' := hf
  unfold frn at hf'
  have hz' : (enc x).size ≤ 1000 := by rw [enc_size]; exact hz
  have hz2 : (up (enc x)).size ≤ 1000 := by rw [up_size]; exact hz'
  refine wpAny_call ?_
  (k_dflt (refine' code_defS0 ?k1 ?k2 ?k3 ?k4 ?k5 ?kA ?k6 ?k7 ?k8 ?k9 ?kB ?_ ?cK ?c2 ?c3 ?c4 ?c5; (case kA => exact rfl); (case k2 => k_asm); (case k1 => k_asm); (case k3 => k_asm); (case k4 => k_asm); (case k5 => k_asm); (case k6 => k_is); (case k7 => k_is); (case k8 => k_room); (case k9 => exact BindsTo.of_eq rfl); (case kB => exact locs rfl); (case cK => assumption); (case c2 => exact rfl); (case c3 => exact rfl); (case c4 => exact rfl); (case c5 => decide); k_whole; intro g' L' h' FG' F' N' B' X' T' D'; (try dsimp only); (try k_lift B'); (try k_fold)))
  k_steps
  (rename Fr h₀ L _ m => kF)
  (rename News h₀ L _ _ => kN)
  exact hret _ _ _ kF (by first | exact kN | exact cb_drop kN fun p hp => List.mem_cons_of_mem _ hp)
set_option maxHeartbeats 8000000 in
theorem read_o0 (x : Str) (tx : Tok) (hx : ∀ c ∈ x.cps.toList, c < 128) (hz : x.cps.size ≤ 1000) (hf : frn (enc x) = false) (ho : (enc x).size % 2 = 1)
  (hret : ∀ (t : Tok) (h' : Heap) (tk' : Nat), Fr h₀ L h' m → News h₀ L h' news → Q (.str (Str.ofString "odd") t) { s with heap := h', toks := tk' }) :
  wpAny (model PySem.Challenge.rw_il0002_01.row.prog w) (callerA.deeper (envOf cn cs L a ccd)) (call (.ref 121) [.str x tx, .bool false]) Q E s := by
  revert KX; k_fill; intro KX
  have hf' := hf
  unfold frn at hf'
  have hz' : (enc x).size ≤ 1000 := by rw [enc_size]; exact hz
  have hz2 : (up (enc x)).size ≤ 1000 := by rw [up_size]; exact hz'
  have hpar : ¬ (((enc x).size : Int)).fmod 2 = 0 := by rw [Int.fmod_eq_emod_of_nonneg _ (by decide)]; omega
  refine wpAny_call ?_
  (k_dflt (refine' code_defS0 ?k1 ?k2 ?k3 ?k4 ?k5 ?kA ?k6 ?k7 ?k8 ?k9 ?kB ?_ ?cK ?c2 ?c3 ?c4 ?c5; (case kA => exact rfl); (case k2 => k_asm); (case k1 => k_asm); (case k3 => k_asm); (case k4 => k_asm); (case k5 => k_asm); (case k6 => k_is); (case k7 => k_is); (case k8 => k_room); (case k9 => exact BindsTo.of_eq rfl); (case kB => exact locs rfl); (case cK => assumption); (case c2 => exact rfl); (case c3 => exact rfl); (case c4 => exact rfl); (case c5 => decide); k_whole; intro g' L' h' FG' F' N' B' X' T' D'; (try dsimp only); (try k_lift B'); (try k_fold)))
  k_steps
  all_goals first
    | exact absurd (by assumption) hpar
    | ((rename Fr h₀ L _ m => kF)
       (rename News h₀ L _ _ => kN)
       exact hret _ _ _ kF (by first | exact kN | exact cb_drop kN fun p hp => List.mem_cons_of_mem _ hp))
set_option maxHeartbeats 8000000 in
theorem read_e0 (x : Str) (tx : Tok) (hx : ∀ c ∈ x.cps.toList, c < 128) (hz : x.cps.size ≤ 1000) (hf : frn (enc x) = false) (ho : (enc x).size % 2 = 0)
  (hret : ∀ (t : Tok) (h' : Heap) (tk' : Nat), Fr h₀ L h' m → News h₀ L h' news → Q (.bytes (dec (enc x)) t) { s with heap := h', toks := tk' }) :
  wpAny (model PySem.Challenge.rw_il0002_01.row.prog w) (callerA.deeper (envOf cn cs L a ccd)) (call (.ref 121) [.str x tx, .bool false]) Q E s := by
  revert KX; k_fill; intro KX
  have hf' := hf
  unfold frn at hf'
  have hz' : (enc x).size ≤ 1000 := by rw [enc_size]; exact hz
  have hz2 : (up (enc x)).size ≤ 1000 := by rw [up_size]; exact hz'
  refine wpAny_call ?_
  (k_dflt (refine' code_defS0 ?k1 ?k2 ?k3 ?k4 ?k5 ?kA ?k6 ?k7 ?k8 ?k9 ?kB ?_ ?cK ?c2 ?c3 ?c4 ?c5; (case kA => exact rfl); (case k2 => k_asm); (case k1 => k_asm); (case k3 => k_asm); (case k4 => k_asm); (case k5 => k_asm); (case k6 => k_is); (case k7 => k_is); (case k8 => k_room); (case k9 => exact BindsTo.of_eq rfl); (case kB => exact locs rfl); (case cK => assumption); (case c2 => exact rfl); (case c3 => exact rfl); (case c4 => exact rfl); (case c5 => decide); k_whole; intro g' L' h' FG' F' N' B' X' T' D'; (try dsimp only); (try k_lift B'); (try k_fold)))
  k_steps
  (rename Fr h₀ L _ m => kF)
  (rename News h₀ L _ _ => kN)
  exact hret _ _ _ kF (by first | exact kN | exact cb_drop kN fun p hp => List.mem_cons_of_mem _ hp)
set_option maxHeartbeats 8000000 in
theorem read_f1 (x : Str) (tx : Tok) (hx : ∀ c ∈ x.cps.toList, c < 128) (hz : x.cps.size ≤ 1000) (hf : frn (up (enc x)) = true)
  (hret : ∀ (t : Tok) (h' : Heap) (tk' : Nat), Fr h₀ L h' m → News h₀ L h' news → Q (.str (Str.ofString "foreign") t) { s with heap := h', toks := tk' }) :
  wpAny (model PySem.Challenge.rw_il0002_01.row.prog w) (callerA.deeper (envOf cn cs L a ccd)) (call (.ref 121) [.str x tx, .bool true]) Q E s := by
  revert KX; k_fill; intro KX
  have hf' := hf
  unfold frn at hf'
  have hz' : (enc x).size ≤ 1000 := by rw [enc_size]; exact hz
  have hz2 : (up (enc x)).size ≤ 1000 := by rw [up_size]; exact hz'
  refine wpAny_call ?_
  (k_dflt (refine' code_defS0 ?k1 ?k2 ?k3 ?k4 ?k5 ?kA ?k6 ?k7 ?k8 ?k9 ?kB ?_ ?cK ?c2 ?c3 ?c4 ?c5; (case kA => exact rfl); (case k2 => k_asm); (case k1 => k_asm); (case k3 => k_asm); (case k4 => k_asm); (case k5 => k_asm); (case k6 => k_is); (case k7 => k_is); (case k8 => k_room); (case k9 => exact BindsTo.of_eq rfl); (case kB => exact locs rfl); (case cK => assumption); (case c2 => exact rfl); (case c3 => exact rfl); (case c4 => exact rfl); (case c5 => decide); k_whole; intro g' L' h' FG' F' N' B' X' T' D'; (try dsimp only); (try k_lift B'); (try k_fold)))
  k_steps
  (rename Fr h₀ L _ m => kF)
  (rename News h₀ L _ _ => kN)
  exact hret _ _ _ kF (by first | exact kN | exact cb_drop kN fun p hp => List.mem_cons_of_mem _ hp)
set_option maxHeartbeats 8000000 in
theorem read_o1 (x : Str) (tx : Tok) (hx : ∀ c ∈ x.cps.toList, c < 128) (hz : x.cps.size ≤ 1000) (hf : frn (up (enc x)) = false) (ho : (up (enc x)).size % 2 = 1)
  (hret : ∀ (t : Tok) (h' : Heap) (tk' : Nat), Fr h₀ L h' m → News h₀ L h' news → Q (.str (Str.ofString "odd") t) { s with heap := h', toks := tk' }) :
  wpAny (model PySem.Challenge.rw_il0002_01.row.prog w) (callerA.deeper (envOf cn cs L a ccd)) (call (.ref 121) [.str x tx, .bool true]) Q E s := by
  revert KX; k_fill; intro KX
  have hf' := hf
  unfold frn at hf'
  have hz' : (enc x).size ≤ 1000 := by rw [enc_size]; exact hz
  have hz2 : (up (enc x)).size ≤ 1000 := by rw [up_size]; exact hz'
  have hpar : ¬ (((up (enc x)).size : Int)).fmod 2 = 0 := by rw [Int.fmod_eq_emod_of_nonneg _ (by decide)]; omega
  refine wpAny_call ?_
  (k_dflt (refine' code_defS0 ?k1 ?k2 ?k3 ?k4 ?k5 ?kA ?k6 ?k7 ?k8 ?k9 ?kB ?_ ?cK ?c2 ?c3 ?c4 ?c5; (case kA => exact rfl); (case k2 => k_asm); (case k1 => k_asm); (case k3 => k_asm); (case k4 => k_asm); (case k5 => k_asm); (case k6 => k_is); (case k7 => k_is); (case k8 => k_room); (case k9 => exact BindsTo.of_eq rfl); (case kB => exact locs rfl); (case cK => assumption); (case c2 => exact rfl); (case c3 => exact rfl); (case c4 => exact rfl); (case c5 => decide); k_whole; intro g' L' h' FG' F' N' B' X' T' D'; (try dsimp only); (try k_lift B'); (try k_fold)))
  k_steps
  all_goals first
    | exact absurd (by assumption) hpar
    | ((rename Fr h₀ L _ m => kF)
       (rename News h₀ L _ _ => kN)
       exact hret _ _ _ kF (by first | exact kN | exact cb_drop kN fun p hp => List.mem_cons_of_mem _ hp))
set_option maxHeartbeats 8000000 in
theorem read_e1 (x : Str) (tx : Tok) (hx : ∀ c ∈ x.cps.toList, c < 128) (hz : x.cps.size ≤ 1000) (hf : frn (up (enc x)) = false) (ho : (up (enc x)).size % 2 = 0)
  (hret : ∀ (t : Tok) (h' : Heap) (tk' : Nat), Fr h₀ L h' m → News h₀ L h' news → Q (.bytes (dec (up (enc x))) t) { s with heap := h', toks := tk' }) :
  wpAny (model PySem.Challenge.rw_il0002_01.row.prog w) (callerA.deeper (envOf cn cs L a ccd)) (call (.ref 121) [.str x tx, .bool true]) Q E s := by
  revert KX; k_fill; intro KX
  have hf' := hf
  unfold frn at hf'
  have hz' : (enc x).size ≤ 1000 := by rw [enc_size]; exact hz
  have hz2 : (up (enc x)).size ≤ 1000 := by rw [up_size]; exact hz'
  refine wpAny_call ?_
  (k_dflt (refine' code_defS0 ?k1 ?k2 ?k3 ?k4 ?k5 ?kA ?k6 ?k7 ?k8 ?k9 ?kB ?_ ?cK ?c2 ?c3 ?c4 ?c5; (case kA => exact rfl); (case k2 => k_asm); (case k1 => k_asm); (case k3 => k_asm); (case k4 => k_asm); (case k5 => k_asm); (case k6 => k_is); (case k7 => k_is); (case k8 => k_room); (case k9 => exact BindsTo.of_eq rfl); (case kB => exact locs rfl); (case cK => assumption); (case c2 => exact rfl); (case c3 => exact rfl); (case c4 => exact rfl); (case c5 => decide); k_whole; intro g' L' h' FG' F' N' B' X' T' D'; (try dsimp only); (try k_lift B'); (try k_fold)))
  k_steps
  (rename Fr h₀ L _ m => kF)
  (rename News h₀ L _ _ => kN)
  exact hret _ _ _ kF (by first | exact kN | exact cb_drop kN fun p hp => List.mem_cons_of_mem _ hp)
theorem read_spec (fo : Bool) (x : Str) (tx : Tok) (hx : ∀ c ∈ x.cps.toList, c < 128) (hz : x.cps.size ≤ 1000)
  (hret : ∀ (v : Value) (h' : Heap) (tk' : Nat), ReadAns fo x v → Fr h₀ L h' m → News h₀ L h' news → Q v { s with heap := h', toks := tk' }) :
  wpAny (model PySem.Challenge.rw_il0002_01.row.prog w) (callerA.deeper (envOf cn cs L a ccd)) (call (.ref 121) [.str x tx, .bool fo]) Q E s := by
  unfold ReadAns rdB at hret
  cases fo with
  | false =>
    simp only [Bool.false_eq_true, if_false] at hret
    cases hf : frn (enc x) with
    | true => exact read_f0 B F KX N T hk x tx hx hz hf fun t h' tk' => hret _ h' tk' (by rw [hf, if_pos rfl]; exact ⟨t, rfl⟩)
    | false =>
      rcases Nat.mod_two_eq_zero_or_one (enc x).size with ho | ho
      · exact read_e0 B F KX N T hk x tx hx hz hf ho fun t h' tk' => hret _ h' tk' (by rw [hf, if_neg (by decide), if_neg (by omega)]; exact ⟨t, rfl⟩)
      · exact read_o0 B F KX N T hk x tx hx hz hf ho fun t h' tk' => hret _ h' tk' (by rw [hf, if_neg (by decide), if_pos ho]; exact ⟨t, rfl⟩)
  | true =>
    simp only [if_true] at hret
    cases hf : frn (up (enc x)) with
    | true => exact read_f1 B F KX N T hk x tx hx hz hf fun t h' tk' => hret _ h' tk' (by rw [hf, if_pos rfl]; exact ⟨t, rfl⟩)
    | false =>
      rcases Nat.mod_two_eq_zero_or_one (up (enc x)).size with ho | ho
      · exact read_e1 B F KX N T hk x tx hx hz hf ho fun t h' tk' => hret _ h' tk' (by rw [hf, if_neg (by decide), if_neg (by omega)]; exact ⟨t, rfl⟩)
      · exact read_o1 B F KX N T hk x tx hx hz hf ho fun t h' tk' => hret _ h' tk' (by rw [hf, if_neg (by decide), if_pos ho]; exact ⟨t, rfl⟩)
end
end Mine
end

section -- LC
open PySem PySem.W PyProof.Rows PyProof.Rows.LCg
namespace Mine
theorem off_LC : True := by (w_top off; trivial)
def FinC (h₀ : Heap) (L : Addr) (m : Str → Option Value) (s : Shared) (c : Addr) (Q : Flow → Shared → Prop) (ys : List Value) (news : List (Addr × Obj)) : Prop :=
  ∃ oc v0 own, (c, oc) ∈ news ∧ oc.data = .cell v0 ∧ (∀ p ∈ own, p ∈ news ∧ p.1 ≠ c) ∧
    ∀ D h tk o', Fr h₀ L h m → News h₀ L h ((D, lst ys) :: (c, o') :: own) → o'.data = .cell (some (.ref D)) → @Ne Nat c D → Off1 D own → Q .next { s with heap := h, toks := tk }
theorem off1_of {D : Addr} : ∀ {l : List (Addr × Obj)}, (∀ p ∈ l, p.1 ≠ D) → Off1 D l
  | [], _ => trivial
  | _ :: _, h => ⟨h _ List.mem_cons_self, off1_of fun p hp => h p (List.mem_cons_of_mem _ hp)⟩
theorem off1_mem {D : Addr} : ∀ {l : List (Addr × Obj)}, Off1 D l → ∀ p ∈ l, p.1 ≠ D
  | [], _, _, h => nomatch h
  | _ :: _, x, p, h => by
    rcases List.mem_cons.mp h with rfl | h
    · exact x.1
    · exact off1_mem x.2 p h
section
variable {prog : Program} {w : World} {A : Around} {E : Value → Shared → Prop} {s : Shared} {h₀ : Heap} {L : Addr} {m : Str → Option Value} {env : Env}

def SrcS (prog : Program) (w : World) (A : Around) (h₀ : Heap) (L : Addr) (m : Str → Option Value) (env : Env) (elt : Expr) (x : Str) (scope : Scope) (cl : List (Str × Addr)) (Fin : Shared → List Value → List (Addr × Obj) → Prop) (xv : Value) (s₁ : Shared) : Prop :=
  ∃ z t news, xv = .str z t ∧ A.handled = none ∧ Fr h₀ L s₁.heap m ∧ News h₀ L s₁.heap news ∧ z.cps.all (· < 128) = true ∧ z.cps.size ≤ sizeLine ∧
    ∀ s₂ : Shared, (∃ h, s₂ = { s₁ with heap := h }) → CompRest prog w A h₀ L m env elt x scope cl s₂ (fun _ => True) (SignAt z) (Fin s₂) z.cps.size 0 [] news

theorem Assign_LC_str {elt iter : Expr} {x y : Str} {px py : Pos} {scope : Scope} {cl : List (Str × Addr)} {pos spos : Pos} {Q : Flow → Shared → Prop} (F₀ : Fr h₀ L s.heap m) (hLe : env.locals = L)
    (hsw : swapsWith (.ListComp elt [⟨.Name x px, iter, [], 0⟩] scope pos) (some (.Name y py)) spos.line env = pure true)
    (hclos : closureFor scope env = pure cl) (hcell : ∀ z ∈ scope.names, z.2 ≠ .cell) (hkind : scope.kind = .function)
    (hnames : ∀ z ∈ scope.names, z.2 = .local → scope.names.lookup z.1 = some .local) (hx : scope.names.lookup x = some .local)
    (hy : env.kindOf y = some .local) (hp : (env.scope.kind == .class || (env.scope.kind == .module && env.locals != env.globals)) = false)
    (h : wpAny (model prog w) A (eval iter env) (SrcS prog w A h₀ L m env elt x scope cl (fun s₂ => FinA h₀ L m s₂ y Q)) E s)
    (hs : ∀ x, foldedSetIterable iter env x = pure x := by intro _; rfl) :
    wpAny (model prog w) A (exec (.Assign [.Name y py] (.ListComp elt [⟨.Name x px, iter, [], 0⟩] scope pos) spos) env) Q E s := by
  subst hLe
  rw [exec_Assign_Name_used _ _ _ _ hsw]
  refine wpAny_bind (wpAny_standAt (wpAny_bind ?_))
  show wpAny _ A (do let _ ← comprehension (.ListComp elt [⟨.Name x px, iter, [], 0⟩] scope pos) scope env _ (newList []) false (eval iter env) (some (assign (.Name y py) env))) _ _ s
  refine wpAny_bind (wpAny_mono (wpAny_comprehension_free (use := some (assign (.Name y py) env)) (Q := fun _ s' => Q .next s') rfl hs hclos hkind hnames
    (wpAny_mono h (fun xv s₁ h₁ => ?_) fun _ _ e => e)) (fun _ s' hq => wpAny_pure (wpAny_pure hq)) fun _ _ e => e)
  obtain ⟨z, t, news, rfl, hh, F, N, ha, hsz, R⟩ := h₁
  refine wpAny_pyIter_ascii ha ?_
  have up : ∀ b o, s₁.heap.get? b = some o → (s₁.heap.push { cls := .type "str_ascii_iterator", data := .fields #[.str z t, .int 0 0] }).get? b = some o := fun b o e => Heap.get?_push_of_some _ e
  refine block_U (Walks.strAscii hh s₁.heap.objs.size z t) hsz (fun i h st => by obtain ⟨o, e, _⟩ := st; exact ⟨o, e⟩)
    (fun i h h' o nw st e e' _ _ _ => by obtain ⟨o', q, r⟩ := st; rw [e] at q; cases q; exact ⟨o, e', r⟩) hcell hkind hx ⟨_, Heap.get?_push_size _ rfl, rfl, rfl⟩ (fun b hb => ?_)
    (F.keeps up) (N.grown up) (Nat.ne_of_lt F.ns.lt) (next_is_new F) (fun p hp => Nat.ne_of_lt (Heap.lt_size (N p hp).1)) trivial (R _ ⟨_, rfl⟩) ?_
  · rw [List.mem_singleton.mp hb]
    show s₁.heap.objs.size < (s₁.heap.push _).objs.size
    rw [Heap.size_push]; exact Nat.lt_succ_self _
  · intro D C h' tk m' ys news' F' N' o1 hn hC₀ hD₀ hCL hDL hCD offC fin
    show wpAny _ A (assign (.Name y py) env (.ref D)) _ _ _
    refine wpAny_assign_Name (wpAny_storeName_local hy F'.ns (fun h₂ hn₂ hs₂ => ?_) hp)
    have hL₀ : h₀.get? env.locals = none := Heap.get?_none_of_le F'.above
    have F₂ : Fr h₀ env.locals h₂ (fun z => if z = y then some (.ref D) else m z) := ⟨hn₂, fun b o e => hs₂.extBut b o (fun q => by rw [q, hL₀] at e; cases e) (F'.keep b o e), F'.above⟩
    refine ⟨m', hn.sameBut hs₂ hCL, fun h'' hs'' => fin D h'' _ (F₂.change hs'' hCL hC₀) (fun p hp => ?_) o1⟩
    have z : h₂.get? p.1 = some p.2 := hs₂.extBut _ _ (N' p hp).2.1 (N' p hp).1
    refine ⟨hs''.extBut _ _ ?_ z, (N' p hp).2⟩
    rcases List.mem_cons.mp hp with rfl | hp
    · exact Ne.symm hCD
    · exact offC p hp

theorem Assign_LC_cell {elt iter : Expr} {x y : Str} {px py : Pos} {scope : Scope} {cl : List (Str × Addr)} {pos spos : Pos} {Q : Flow → Shared → Prop} {c : Addr} (F₀ : Fr h₀ L s.heap m)
    (hsw : swapsWith (.ListComp elt [⟨.Name x px, iter, [], 0⟩] scope pos) (some (.Name y py)) spos.line env = pure true)
    (hclos : closureFor scope env = pure cl) (hcell : ∀ z ∈ scope.names, z.2 ≠ .cell) (hkind : scope.kind = .function)
    (hnames : ∀ z ∈ scope.names, z.2 = .local → scope.names.lookup z.1 = some .local) (hx : scope.names.lookup x = some .local)
    (hkf : env.scope.kind = .function) (hy : env.kindOf y = some .cell) (hc : env.cells.lookup y = some c)
    (h : wpAny (model prog w) A (eval iter env) (SrcL prog w A h₀ L m env elt x scope cl (fun s₂ => FinC h₀ L m s₂ c Q)) E s)
    (hs : ∀ x, foldedSetIterable iter env x = pure x := by intro _; rfl) :
    wpAny (model prog w) A (exec (.Assign [.Name y py] (.ListComp elt [⟨.Name x px, iter, [], 0⟩] scope pos) spos) env) Q E s := by
  rw [exec_Assign_Name_used _ _ _ _ hsw]
  refine wpAny_bind (wpAny_standAt (wpAny_bind ?_))
  show wpAny _ A (do let _ ← comprehension (.ListComp elt [⟨.Name x px, iter, [], 0⟩] scope pos) scope env _ (newList []) false (eval iter env) (some (assign (.Name y py) env))) _ _ s
  refine wpAny_bind (wpAny_mono (wpAny_comprehension_free (use := some (assign (.Name y py) env)) (Q := fun _ s' => Q .next s') rfl hs hclos hkind hnames
    (wpAny_mono h (fun xv s₁ h₁ => ?_) fun _ _ e => e)) (fun _ s' hq => wpAny_pure (wpAny_pure hq)) fun _ _ e => e)
  obtain ⟨ax, its, news, rfl, hh, F, N, S, hsz, R⟩ := h₁
  have hl := S.list F.keep N
  have hlt : ax < s₁.heap.objs.size := by obtain ⟨_, e, _⟩ := hl; exact Heap.lt_size e
  refine wpAny_pyIter_list hl ?_
  have up : ∀ b o, s₁.heap.get? b = some o → (s₁.heap.push { cls := .type "list_iterator", data := .fields #[.ref ax, .int 0 0] }).get? b = some o := fun b o e => Heap.get?_push_of_some _ e
  refine block_U (Walks.list hh s₁.heap.objs.size ax (Nat.ne_of_lt hlt) its) hsz (fun i h st => by obtain ⟨o, e, _⟩ := st.1; exact ⟨o, e⟩) list_st hcell hkind hx ⟨⟨_, Heap.get?_push_size _ rfl, rfl, rfl⟩, hl.push _⟩ (fun b hb => ?_)
    (F.keeps up) (N.grown up) (Nat.ne_of_lt F.ns.lt) (next_is_new F) (fun p hp => Nat.ne_of_lt (Heap.lt_size (N p hp).1)) S (R _ ⟨_, rfl⟩) ?_
  · show b < (s₁.heap.push _).objs.size
    rw [Heap.size_push]
    rcases List.mem_cons.mp hb with rfl | hb
    · exact Nat.lt_succ_self _
    · rw [List.mem_singleton.mp hb]; exact Nat.lt_succ_of_lt hlt
  · intro D C h' tk m' ys news' F' N' o1 hn hC₀ hD₀ hCL hDL hCD offC fin
    obtain ⟨oc, v0, own, hm, hd, hown, fin⟩ := fin
    have o1m := off1_mem o1
    have Nc := N' (c, oc) (List.mem_cons_of_mem _ hm)
    have hcC : c ≠ C := offC _ hm
    have hcD : c ≠ D := o1m _ hm
    show wpAny _ A (assign (.Name y py) env (.ref D)) _ _ _
    refine wpAny_assign_Name (wpAny_storeName_cell hkf hy hc ⟨oc, Nc.1, hd⟩ (fun h₂ hv₂ hs₂ => ?_))
    obtain ⟨o', he', hd'⟩ := hv₂
    refine ⟨m', hn.sameBut hs₂ (Ne.symm hcC), fun h'' hs'' => fin D h'' _ o' ((F'.change hs₂ Nc.2.1 Nc.2.2).change hs'' hCL hC₀) (fun p hp => ?_) hd' hcD (off1_of fun p hp => o1m p (hown p hp).1)⟩
    rcases List.mem_cons.mp hp with rfl | hp
    · exact ⟨hs''.extBut _ _ (Ne.symm hCD) (hs₂.extBut _ _ (Ne.symm hcD) (N' _ List.mem_cons_self).1), (N' _ List.mem_cons_self).2⟩
    · rcases List.mem_cons.mp hp with rfl | hp
      · exact ⟨hs''.extBut _ _ hcC he', Nc.2⟩
      · have z := N' p (List.mem_cons_of_mem _ (hown p hp).1)
        exact ⟨hs''.extBut _ _ (offC p (hown p hp).1) (hs₂.extBut _ _ (hown p hp).2 z.1), z.2⟩

def SrcR2 (prog : Program) (w : World) (A : Around) (h₀ : Heap) (L : Addr) (m : Str → Option Value) (env : Env) (elt : Expr) (x : Str) (scope : Scope) (cl : List (Str × Addr)) (Fin : Shared → List Value → List (Addr × Obj) → Prop) (xv : Value) (s₁ : Shared) : Prop :=
  ∃ r a b c t u v n news, xv = .ref r ∧ A.handled = none ∧ Fr h₀ L s₁.heap m ∧ News h₀ L s₁.heap news ∧ IsRange s₁.heap r a b c t u v ∧ Builtin.Range.small a b c = true ∧ Builtin.Range.rangeSize a b c = ((n : Nat) : Int) ∧ n ≤ sizeLine ∧
    ∀ s₂ : Shared, (∃ h, s₂ = { s₁ with heap := h }) → CompRest prog w A h₀ L m env elt x scope cl s₂ (fun _ => True) (fun i v => i < n ∧ ∃ t, v = .int (a + (i : Int) * c) t) (Fin s₂) n 0 [] news
theorem ListComp_R2 {elt iter : Expr} {x : Str} {px : Pos} {scope : Scope} {cl : List (Str × Addr)} {pos : Pos} {Q : Value → Shared → Prop} (F₀ : Fr h₀ L s.heap m)
    (hclos : closureFor scope env = pure cl) (hcell : ∀ y ∈ scope.names, y.2 ≠ .cell) (hkind : scope.kind = .function)
    (hnames : ∀ y ∈ scope.names, y.2 = .local → scope.names.lookup y.1 = some .local) (hx : scope.names.lookup x = some .local)
    (h : wpAny (model prog w) A (eval iter env) (SrcR2 prog w A h₀ L m env elt x scope cl (fun s₂ => FinE h₀ L m s₂ Q)) E s)
    (hs : ∀ x, foldedSetIterable iter env x = pure x := by intro _; rfl) :
    wpAny (model prog w) A (eval (.ListComp elt [⟨.Name x px, iter, [], 0⟩] scope pos) env) Q E s := by
  rw [eval_ListComp]
  refine wpAny_comprehension_free (use := none) rfl hs hclos hkind hnames (wpAny_mono h (fun xv s₁ h₁ => ?_) fun _ _ e => e)
  obtain ⟨r, a, b, c, t, u, v, n, news, rfl, hh, F, N, hr, hsm, hn, hsz, R⟩ := h₁
  refine wpAny_pyIter_range hr hsm ?_
  refine block_U (Walks.range hh s₁.heap.objs.size a c n).bound hsz (fun i h st => ⟨_, st⟩)
    (fun i h h' o nw st e e' _ _ _ => by
      have st' : h.get? s₁.heap.objs.size = some _ := st
      show h'.get? s₁.heap.objs.size = some _
      rw [e', ← e]; exact st') hcell hkind hx (by show IsRangeIter _ _ _ _ _; rw [hn]; simpa using Heap.get?_push_size _ rfl) (fun b hb => ?_)
    (F.keeps fun _ _ e => Heap.get?_push_of_some _ e) (N.grown fun _ _ e => Heap.get?_push_of_some _ e) (Nat.ne_of_lt F.ns.lt) (next_is_new F) (fun p hp => Nat.ne_of_lt (Heap.lt_size (N p hp).1)) trivial (R _ ⟨_, rfl⟩) ?_
  · rw [List.mem_singleton.mp hb]
    show s₁.heap.objs.size < (s₁.heap.push _).objs.size
    rw [Heap.size_push]; exact Nat.lt_succ_self _
  · intro D C h tk m' ys news' F' N' o1 hn hC₀ hD₀ hCL hDL hCD offC fin
    refine ⟨m', hn, fun h'' hs'' => fin D h'' tk (F'.change hs'' hCL hC₀) (fun p hp => ?_) o1⟩
    refine ⟨hs''.extBut _ _ ?_ (N' p hp).1, (N' p hp).2⟩
    rcases List.mem_cons.mp hp with rfl | hp
    · exact Ne.symm hCD
    · exact offC p hp
end
section
variable {prog : Program} {w : World} {A : Around} {h₀ : Heap} {L : Addr} {m : Str → Option Value} {env : Env} {elt : Expr} {x : Str} {scope : Scope} {cl : List (Str × Addr)} {s : Shared} {S : List (Addr × Obj) → Prop} {P : Nat → Value → Prop} {Fin : List Value → List (Addr × Obj) → Prop} {news : List (Addr × Obj)}
theorem lc_rest {n : Nat} (vf : Nat → Value → Prop) (f : Nat → Int) (hP : ∀ i v, i < n → P i v → vf i v)
    (turn : ∀ i v I oI C oC D m₂ ys h tk (E' : Value → Shared → Prop), i < n → vf i v → NsObj oC m₂ → m₂ x = some v → Fr h₀ L h m → News h₀ L h ((I, oI) :: (C, oC) :: (D, lst ys) :: news) → Off3 I C D news → ((@Ne Nat I C) ∧ (@Ne Nat I D) ∧ (@Ne Nat C D)) →
      wpAny (model prog w) A (eval elt (compEnvC scope cl C env)) (CompEnd h₀ L m { s with heap := h, toks := tk } I oI C oC D (lst ys) S (fun y news' => news' = news ∧ ∃ t : Tok, y = .int (f i) t)) E' { s with heap := h, toks := tk })
    (fin : ∀ ys, IntsAre ys ((List.range n).map f) → Fin ys news) : CompRest prog w A h₀ L m env elt x scope cl s S P Fin n 0 [] news := by
  have key : ∀ (j i : Nat) (ys : List Value), i + j = n → IntsAre ys ((List.range i).map f) → CompRest prog w A h₀ L m env elt x scope cl s S P Fin j i ys news := by
    intro j
    induction j with
    | zero =>
      intro i ys hi hy
      obtain rfl : i = n := by omega
      exact CompRest.zero (fin ys hy)
    | succ j ih =>
      intro i ys hi hy
      refine CompRest.succ ?_
      intro v I oI C oC D m₂ h tk E' hv hC hx F N off ne
      refine wpAny_mono (turn i v I oI C oC D m₂ ys h tk E' (by omega) (hP i v (by omega) hv) hC hx F N off ne) (fun y s₂ hq => ?_) fun _ _ e => e
      obtain ⟨h', tk', nw, e, F', N', off', hS, hn, t', hy'⟩ := hq
      rw [hn] at N' off' hS
      refine ⟨h', tk', news, e, F', N', off', hS, ?_⟩
      rw [hy']
      refine ih (i + 1) _ (by omega) ?_
      rw [List.range_succ, List.map_append]
      exact IntsAre.append hy (.cons (f i) t' .nil)
  exact key n 0 [] (by omega) .nil
end
end Mine
end

section -- OC
open PySem PySem.W PyProof.Rows PyProof.Rows.LCg
set_option maxRecDepth 100000
namespace Mine
theorem off_OC : True := by (w_top off; trivial)
section
variable {prog : Program} {w : World} {A : Around} {E : Value → Shared → Prop} {s : Shared}
theorem str_index {x y : Str} {t u : Tok} {i : Nat} {rest : List Nat} {Q : Value → Shared → Prop} (ho : PySem.Builtin.Str.occurrences x y 0 x.length 1 = i :: rest)
    (h : Q (.int (i : Int) s.toks) { s with toks := s.toks + 1 }) : wpAny (model prog w) A (call (.builtin "str.index") [.str x t, .str y u]) Q E s :=
  call_gives F.slot_str_index (typeIs_str _ _ _) F.entry_str_index (F.args_str_index_2 _ _) (gives_str_index x y t u i rest ho) h
theorem getMethod_index {x : Str} {t : Tok} {pl : Sem Bool} {Q : Value × List Value → Shared → Prop} (h : Q (.builtin "str.index", [.str x t]) s) :
    wpAny (model prog w) A (getMethod (.str x t) (Str.ofString "index") pl) Q E s :=
  getMethod_builtin (typeIs_str _ _ _) F.plainAttrs_str F.slot_str_index F.type_str_index (fun _ e => nomatch e) h
end
def menu22 : Str := Str.ofString "0123456789ABCDEFabcdef"
def plc (c : Nat) : Nat := if c ≤ 57 then c - 48 else if c ≤ 70 then c - 55 else c - 81
def known (c : Nat) : Bool := (48 ≤ c && c ≤ 57) || (65 ≤ c && c ≤ 70) || (97 ≤ c && c ≤ 102)
def octs (x : Str) : Array UInt8 := (((List.range (x.cps.size / 2)).map fun i => hvI (x.cps.getD (2 * i) 0) * 16 + hvI (x.cps.getD (2 * i + 1) 0)).map fun n => n.toNat.toUInt8).toArray
theorem occ_all : ∀ c : Fin 128, known c.1 = true → (PySem.Builtin.Str.occurrences menu22 ⟨#[c.1]⟩ 0 menu22.length 1).head? = some (plc c.1) := by decide +kernel
theorem occ_at {c : Nat} (h : known c = true) : ∃ r, PySem.Builtin.Str.occurrences (Str.ofString "0123456789ABCDEFabcdef") ⟨#[c]⟩ 0 (Str.ofString "0123456789ABCDEFabcdef").length 1 = plc c :: r := by
  have hc : c < 128 := by simp [known] at h; omega
  have := occ_all ⟨c, hc⟩ h
  exact (List.head?_eq_some_iff).mp this
theorem rangeSize_two {n : Nat} (h : n % 2 = 0) : PySem.Builtin.Range.rangeSize 0 (n : Int) 2 = ((n / 2 : Nat) : Int) := by
  unfold PySem.Builtin.Range.rangeSize
  simp only [show (2 : Int) > 0 by decide, if_true]
  split <;> omega
theorem small_two {n : Nat} (he : n % 2 = 0) (h : n ≤ 2000) : PySem.Builtin.Range.small 0 (n : Int) 2 = true := by
  unfold PySem.Builtin.Range.small
  rw [rangeSize_two he]
  have e : ∀ k : Nat, k ≤ 4000 → PySem.Builtin.Range.rangeFitsLong (k : Int) = true := fun k hk => by
    unfold PySem.Builtin.Range.rangeFitsLong
    rw [Bool.and_eq_true, decide_eq_true_eq, decide_eq_true_eq]
    omega
  have h0 : PySem.Builtin.Range.rangeFitsLong (n : Int) = true := e n (by omega)
  have h1 : PySem.Builtin.Range.rangeFitsLong ((n / 2 : Nat) : Int) = true := e (n / 2) (by omega)
  have h2 : PySem.Builtin.Range.rangeFitsLong ((n : Int) + (2 - 1)) = true := by
    have := e (n + 1) (by omega)
    rw [show ((n : Int) + (2 - 1)) = ((n + 1 : Nat) : Int) by omega]; exact this
  rw [h0, h1, h2]
  simp only [show PySem.Builtin.Range.rangeFitsLong 0 = true by decide, show PySem.Builtin.Range.rangeFitsLong 2 = true by decide, show (2 : Int) > 0 by decide, if_true, Bool.or_true, Bool.and_true]
theorem ints_at {vs : List Value} {f : Nat → Int} {n i : Nat} {v : Value} (h : IntsAre vs ((List.range n).map f)) (hi : i < n) (hv : vs[i]? = some v) : ∃ u, v = .int (f i) u := by
  obtain ⟨k, t, e, hk⟩ := h.at i v hv
  rw [List.getElem?_map, List.getElem?_range hi] at hk
  exact ⟨t, by rw [e, ← Option.some.inj hk]⟩
theorem map_getD {n i : Nat} (f : Nat → Int) (h : i < n) : ((List.range n).map f).getD i 0 = f i := by
  rw [List.getD_eq_getElem?_getD, List.getElem?_map, List.getElem?_range h]
  rfl
theorem half_eq {c : Nat} (h : known c = true) : (plc c : Int) - (plc c : Int).fdiv 16 * 6 = hvI (c : Int) := by
  rw [Int.fdiv_eq_ediv_of_nonneg _ (by decide)]
  simp [known] at h
  unfold plc hvI
  split <;> split <;> first | omega | (split <;> first | omega | (split <;> first | omega | (split <;> omega)))
theorem hv_range {c : Nat} (h : known c = true) : 0 ≤ hvI (c : Int) ∧ hvI (c : Int) < 16 := by
  simp [known] at h
  unfold hvI
  split
  · omega
  · split
    · omega
    · split <;> omega
theorem getD_mem {a : Array Nat} {i : Nat} (h : i < a.size) : a.getD i 0 ∈ a.toList := by
  simp [Array.getD, h]
theorem oct_range {x : Str} (hx : ∀ c ∈ x.cps.toList, known c = true) : ∀ k ∈ (List.range (x.cps.size / 2)).map (fun i => hvI (x.cps.getD (2 * i) 0) * 16 + hvI (x.cps.getD (2 * i + 1) 0)), 0 ≤ k ∧ k < 256 := by
  intro k hk
  obtain ⟨i, hi, rfl⟩ := List.mem_map.mp hk
  have hi := List.mem_range.mp hi
  have h1 := hv_range (hx _ (getD_mem (a := x.cps) (i := 2 * i) (by omega)))
  have h2 := hv_range (hx _ (getD_mem (a := x.cps) (i := 2 * i + 1) (by omega)))
  omega
theorem known_ascii {x : Str} (hx : ∀ c ∈ x.cps.toList, known c = true) : x.cps.all (· < 128) = true := by
  rw [← Array.all_toList, List.all_eq_true]
  intro c hc
  have := hx c hc
  simp [known] at this
  simp; omega
theorem sign_at {x : Str} {i : Nat} {v : Value} (hi : i < x.cps.size) (h : SignAt x i v) : ∃ u, v = .str ⟨#[x.cps.getD i 0]⟩ u := by
  obtain ⟨c, u, hc, rfl⟩ := h
  refine ⟨u, ?_⟩
  simp [Array.getD, hi] at hc ⊢
  exact hc.symm
section
variable {w : World} {p : Program} {loose : List Str} {mean : ExcName → Option Value} {mg mb : Str → Option Value}
  {cn : Str} {cs : Scope} {a : Addr} {ccd : Value} {h₀ : Heap} {L : Addr} {m : Str → Option Value} {news : List (Addr × Obj)} {s : Shared} {Q E : Value → Shared → Prop}
variable (B : Below callerA h₀ [] h₀) (F : Fr h₀ L s.heap m) (KX : (hd.heap_39 w.params).In h₀) (N : News h₀ L s.heap news) (T : Top p loose mean mg mb h₀) (hk : cs.kind = .function)
include B F KX N T hk
local macro_rules | `(tactic| k_room) => `(tactic| ktr_room)
local macro_rules | `(tactic| walk_at "call type:type") => `(tactic| (k_here; (with_reducible show wpAny _ _ (call (Value.type "type") [Value.bytes _ _]) _ _ _); refine call_type_of (typeIs_bytes _ _ _) (by decide +kernel) ?_))
local macro_rules | `(tactic| walk_at "call type:type") => `(tactic| (k_here; (with_reducible show wpAny _ _ (call (Value.type "type") [Value.str _ _]) _ _ _); refine call_type_of (typeIs_str _ _ _) (by decide +kernel) ?_))
local macro_rules | `(tactic| walk_at "call ref") => `(tactic| (k_here; (with_reducible show wpAny _ _ (call (Value.ref 78) [Value.int _ _]) _ _ _); k_dflt (refine' hex_spec ?B ?F ?K ?N ?T ?k ?d _ _ ?_; (case B => k_asm); (case F => k_asm); (case K => k_asm); (case N => k_asm); (case T => k_asm); (case k => first | exact rfl | assumption); (case d => ktr_room); intro t9 h9 tk9 F9 N9; (try dsimp only); (try k_sweep))))
local macro_rules | `(tactic| walk_at "subscriptTail") => `(tactic| (k_here; (with_reducible show wpAny _ _ (subscriptTail _ _ (Value.bytes _ _) (Value.int _ _)) _ _ _); (refine bytes_item ?z ?a ?b ?_; (case z => omega); (case a => omega); (case b => omega)); intro t9 k9))
local macro_rules | `(tactic| k_all) => `(tactic| first | exact allNe_of_lt (by assumption) | exact allNe_of_lt (allLt_back (by assumption)))
local macro_rules | `(tactic| walk_at "call builtin:list.append") => `(tactic| (k_here; (with_reducible show wpAny _ _ (call (Value.builtin _) [Value.ref _, _]) _ _ _); k_dflt (refine' append_K ?k1 ?k2 ?k3 ?_ ?z; (case k1 => k_asm); (case k2 => k_asm); (case k3 => k_upd); (case z => (rw [PySem.sizeLine_eq]; omega)); k_whole); intro h' F' N'; (try k_sweep)))
local macro_rules | `(tactic| ksw_same) => `(tactic| (intro z h2 h3; (simp only [List.forall_mem_cons, List.not_mem_nil, false_implies, implies_true, and_true, ne_eq] at h2); (have h4 := h3); (simp only [List.contains_cons, List.contains_nil, Bool.or_false, Bool.or_eq_false_iff, beq_eq_false_iff_ne, ne_eq] at h4); (simp [kstB, h2, h3, h4]; done)))
local macro_rules | `(tactic| walk_at "call ref") => `(tactic| (k_here; (with_reducible show wpAny _ _ (call (Value.ref 85) [Value.bytes _ _]) _ _ _); k_dflt (refine' a2b_spec ?B ?F ?K ?N ?T ?k ?d _ _ ?z ?e ?kn ?_; (case B => k_asm); (case F => k_asm); (case K => k_asm); (case N => k_asm); (case T => k_asm); (case k => first | exact rfl | assumption); (case d => ktr_room); (case z => omega); (case e => assumption); (case kn => exact known_of (by assumption)); intro t9 h9 tk9 F9 N9; (try dsimp only); (try k_sweep))))
local macro_rules | `(tactic| walk_at "getMethod str") => `(tactic| (k_here; with_reducible refine getMethod_encode ?_))
local macro_rules | `(tactic| walk_at "getMethod bytes") => `(tactic| (k_here; with_reducible refine getMethod_upper ?_))
local macro_rules | `(tactic| walk_at "call builtin:str.encode") => `(tactic| (k_here; (refine encode_ascii ?a ?b ?_; (case a => assumption); (case b => (rw [PySem.sizeLine_eq]; omega))); intro t9 k9))
local macro_rules | `(tactic| walk_at "call builtin:bytes.upper") => `(tactic| (k_here; (refine bytes_upper ?b ?_; (case b => (rw [PySem.sizeLine_eq]; omega))); intro t9 k9))
local macro_rules | `(tactic| walk_at "getMethod ref") => `(tactic| (k_here; (with_reducible show wpAny _ _ (getMethod (Value.ref 43) _ _) _ _ _); k_dflt (refine' pat_method ?F ?X ?l ?_; (case F => k_asm); (case X => k_asm); (case l => k_is))))
local macro_rules | `(tactic| walk_at "call builtin:re.Pattern.search") => `(tactic| (k_here; k_dflt (first
  | (refine' pat_no ?F ?X ?l ?c ?i ?z ?f ?_; (case f => assumption); (case F => k_asm); (case X => k_asm); (case l => k_is); (case c => k_is); (case i => kernel_rfl); (case z => omega))
  | (refine' pat_yes ?F ?N ?X ?l ?c ?i ?z ?f ?_; (case f => assumption); (case F => k_asm); (case N => k_asm); (case X => k_asm); (case l => k_is); (case c => k_is); (case i => kernel_rfl); (case z => omega); intro M9 h9 F9 N9 T9; (try k_sweep)))))
local macro_rules | `(tactic| walk_at "truthy ref") => `(tactic| (k_here; refine truthy_typed (by assumption) match_no_bool match_no_len ?_))
local macro_rules | `(tactic| walk_at "truthOfDropped ref") => `(tactic| (k_here; refine truthOfDropped_typed (by assumption) match_no_bool match_no_len ?_))
local macro_rules | `(tactic| walk_at "call type:str") => `(tactic| (k_here; (with_reducible show wpAny _ _ (call (Value.type "str") [Value.ref _]) _ _ _); (with_reducible rename Got _ _ _ _ _ => gX); k_dflt (refine' str_of_own ?X ?u (excOwn_of ?N gX) ?f ?s ?_; (case X => k_in); (case u => exact Nat.le_of_ble_eq_true rfl); (case N => k_asm); (case f => k_is); (case s => k_is))))
local macro_rules | `(tactic| walk_at "exec Assign cons ListComp") => `(tactic| refine Halt.mk ?_)
local macro_rules | `(tactic| walk_at "eval ListComp") => `(tactic| refine Halt.mk ?_)
local macro_rules | `(tactic| walk_at "SrcS") => `(tactic| refine Halt.mk ?_)
local macro_rules | `(tactic| walk_at "CompSrc") => `(tactic| refine Halt.mk ?_)
local macro_rules | `(tactic| walk_at "SrcR2") => `(tactic| refine Halt.mk ?_)
local macro_rules | `(tactic| walk_at "getMethod str") => `(tactic| (k_here; with_reducible refine getMethod_index ?_))
local macro_rules | `(tactic| walk_at "call builtin:str.index") => `(tactic| (k_here; (with_reducible show wpAny _ _ (call (Value.builtin _) [Value.str _ _, Value.str _ _]) _ _ _); k_dflt (refine' str_index ?o ?_; (case o => assumption))))
local macro_rules | `(tactic| walk_at "CompEnd") => `(tactic| refine Halt.mk ?_)
set_option maxHeartbeats 8000000 in
theorem oct_spec (x : Str) (tx : Tok) (hx : ∀ c ∈ x.cps.toList, known c = true) (hz : x.cps.size ≤ 1000) (he : x.cps.size % 2 = 0)
  (hret : ∀ (t : Tok) (h' : Heap) (tk' : Nat), Fr h₀ L h' m → News h₀ L h' news → Q (.bytes (octs x) t) { s with heap := h', toks := tk' }) :
  wpAny (model PySem.Challenge.rw_il0002_01.row.prog w) (callerA.deeper (envOf cn cs L a ccd)) (call (.ref 126) [.str x tx]) Q E s := by
  revert KX; k_fill; intro KX
  refine wpAny_call ?_
  k_dflt (refine' code_defC ?k1 ?k2 ?k3 ?k4 ?k5 ?kA ?kF ?kK ?k6 ?k7 ?k8 ?k9 ?kB ?kD ?_ ?c2 ?c3 ?c4; (case kA => exact rfl); (case kF => exact rfl); (case kK => exact hk); (case k1 => k_asm); (case k2 => k_asm); (case k3 => k_asm); (case k4 => k_asm); (case k5 => k_asm); (case k6 => k_is); (case k7 => k_is); (case k8 => k_room); (case k9 => exact BindsTo.of_eq rfl); (case kB => exact rfl); (case kD => decide +kernel); (case c2 => exact rfl); (case c3 => exact rfl); (case c4 => exact rfl); k_whole; intro g' L' h' tk' cells' FG' F' N' Y' B' X' T' l1; (try k_lt l1); k_cells Y'; (try simp only [List.cons_append, List.nil_append] at N'); (try dsimp only); (try k_lift B'); (try k_fold))
  k_steps
  with_reducible refine Halt.out ?_
  rename Fr g' L' _ _ => kF
  k_dflt (refine' Assign_LC_str kF rfl ?a1 ?a2 ?a3 ?a4 ?a5 ?a6 ?a7 ?a8 ?h (hs := ?hs))
  case a1 => with_unfolding_all rfl
  case a2 => rfl
  case a3 => decide
  case a4 => rfl
  case a5 => decide
  case a6 => rfl
  case a7 => rfl
  case a8 => rfl
  case hs => intro _; rfl
  case h =>
    k_steps
    with_reducible refine Halt.out ?_
    rename Fr g' L' _ _ => F2
    rename News g' L' _ _ => N2
    refine ⟨_, _, _, rfl, rfl, F2, N2, ?asc, ?sz, ?rest⟩
    case asc => exact known_ascii hx
    case sz => (rw [PySem.sizeLine_eq]; omega)
    case rest =>
      rintro s₂ ⟨h2, rfl⟩
      refine lc_rest (fun i v => ∃ u, v = .str ⟨#[x.cps.getD i 0]⟩ u) (fun i => (plc (x.cps.getD i 0) : Int)) ?P ?turn ?fin
      case P => exact fun i v hi => sign_at hi
      case turn =>
        rintro i v I oI C oC D m₂ ys h tk E' hi ⟨u, rfl⟩ hC hx1 F3 N3 off3 ne3
        obtain ⟨r, hocc⟩ := occ_at (hx _ (getD_mem hi))
        k_steps
        with_reducible refine Halt.out ?_
        exact ⟨_, _, _, rfl, F3, N3, off3, trivial, rfl, _, rfl⟩
      case fin =>
        intro ys hys
        unfold FinA
        intro D' h' tk' F3 N3 o3
        clear F2 N2
        k_steps
        with_reducible refine Halt.out ?_
        refine wpAny_Assign_Name ?_ ?_
        case refine_2 => with_unfolding_all rfl
        k_steps
        with_reducible refine Halt.out ?_
        k_dflt (refine' LCg.ListComp_U F3 ?b2 ?b3 ?b4 ?b5 ?b6 ?hh (hs := ?hs))
        case b2 => rfl
        case b3 => decide
        case b4 => rfl
        case b5 => decide
        case b6 => rfl
        case hs => intro _; rfl
        case hh =>
        k_steps
        with_reducible refine Halt.out ?_
        have hl : ys.length = x.cps.size := by rw [hys.length]; simp
        refine .inl ⟨D', ys.toArray, _, rfl, rfl, F3, N3, .inr ⟨_, .head _, rfl, _, rfl⟩, ?sz2, ?rest2⟩
        case sz2 => (rw [PySem.sizeLine_eq, List.size_toArray]; omega)
        case rest2 =>
        rintro s₂ ⟨h2, rfl⟩
        refine lc_rest (fun i v => ∃ u, v = .int (plc (x.cps.getD i 0)) u) (fun i => hvI (x.cps.getD i 0)) ?P ?turn ?fin
        case P => exact fun i v hi hv => ints_at (f := fun i => (plc (x.cps.getD i 0) : Int)) hys (by simpa [hl] using hi) (by simpa using hv)
        case turn =>
          rintro i v I oI C oC D m₂ ys h tk E' hi ⟨u, rfl⟩ hC hx1 F4 N4 off4 ne4
          clear F3 N3
          k_steps
          with_reducible refine Halt.out ?_
          have hi' : i < x.cps.size := by simpa [hl] using hi
          refine' ⟨_, _, _, rfl, F4, N4, off4, .inr ⟨_, .head _, rfl, _, rfl⟩, rfl, ?tk, ?e⟩
          case e =>
            rw [← half_eq (hx _ (getD_mem hi'))]
        case fin =>
        intro zs hzs
        unfold FinE
        intro D2 h2 tk2 F4 N4 off4
        clear F3 N3
        k_steps
        obtain ⟨n1, n2, n3⟩ := off4
        have hzl : zs.length = x.cps.size := by rw [hzs.length]; simpa using hl
        have hzn : zs.toArray.size = x.cps.size := by simpa using hzl
        rename _ = Data.cell _ => d1
        k_dflt (refine' storeX_C F4 N4 rfl (UpdF.tail ?ne1 (UpdF.tail ?ne2 (UpdF.head ?ne3))) d1 ?_)
        case ne1 => exact Ne.symm n2
        case ne2 => exact Ne.symm o3.1
        case ne3 => exact fun p hp => Nat.ne_of_lt (Nat.lt_succ_of_lt (l1 p hp))
        clear F4 N4
        intro h5 o5 F5 N5 d5
        k_steps
        with_reducible refine Halt.out ?_
        k_dflt (refine' ListComp_R2 F5 ?b2 ?b3 ?b4 ?b5 ?b6 ?hh (hs := ?hs))
        case b2 => with_unfolding_all rfl
        case b3 => decide
        case b4 => rfl
        case b5 => decide
        case b6 => rfl
        case hs => intro _; rfl
        case hh =>
        k_steps
        with_reducible refine Halt.out ?_
        rename Fr g' L' _ _ => F6
        rename News g' L' _ _ => N6
        rename IsRange _ _ _ _ _ _ _ _ => hr6
        refine ⟨_, 0, _, 2, _, _, _, x.cps.size / 2, _, rfl, rfl, F6, N6, hr6, small_two he (by omega), rangeSize_two he, (by rw [PySem.sizeLine_eq]; omega), ?_⟩
        rintro s₂ ⟨h2, rfl⟩
        refine lc_rest (fun i v => ∃ u, v = .int (2 * (i : Int)) u) (fun i => hvI (x.cps.getD (2 * i) 0) * 16 + hvI (x.cps.getD (2 * i + 1) 0)) ?P ?turn ?fin
        case P => exact fun i v _ ⟨_, u, hv⟩ => ⟨u, by rw [hv]; congr 1; omega⟩
        case turn =>
          rintro i v I oI C oC D m₂ ys h tk E' hi ⟨u, rfl⟩ hC hx1 F7 N7 off7 ne7
          clear F6 N6
          k_steps
          with_reducible refine Halt.out ?_
          have e1 : (2 * (i : Int)).toNat = 2 * i := by omega
          have e2 : (2 * (i : Int) + 1).toNat = 2 * i + 1 := by omega
          refine' ⟨_, _, _, rfl, F7, N7, off7, trivial, rfl, ?tk7, ?e7⟩
          case e7 =>
            rw [e1, e2, map_getD _ (by simp only [List.size_toArray]; omega), map_getD _ (by simp only [List.size_toArray]; omega)]
        case fin =>
        intro qs hqs
        unfold FinE
        intro D3 h3 tk3 F7 N7 off7
        clear F6 N6
        k_steps
        refine bytes_K F7 N7 ⟨_, (N7 _ (.head _)).1, rfl, _, rfl⟩ hqs (oct_range hx) (by rw [PySem.sizeLine_eq, hqs.length]; simp; omega) rfl ?_
        intro h8 t8 k8 F8 N8 _
        clear F7 N7
        k_steps
        rename Fr h₀ L _ m => kF
        rename News h₀ L _ _ => kN
        exact hret _ _ _ kF (cb_drop kN fun p hp => List.mem_cons_of_mem _ (List.mem_cons_of_mem _ (List.mem_cons_of_mem _ (List.mem_cons_of_mem _ hp))))
end
end Mine
end

section -- FN
open PySem PySem.W PyProof.Rows
open Builtin Builtin.ObjectAttr
namespace Mine
theorem off_FN : True := by (w_top off; trivial)
theorem fn_slot_sa : Slot "function" "__setattr__" "object.__setattr__" :=
  .of (owner := "object") (n := "__setattr__") (by rw [typeLookup_type, builtinLookup_eq_fast]; kernel_rfl) (by decide +kernel) (by decide +kernel) (by decide +kernel)
    (by first | exact .inl (by decide +kernel) | exact .inr (by decide +kernel)) (by rw [isSubtype_type]; kernel_rfl)
theorem fn_slot_ga : Slot "function" "__getattribute__" "object.__getattribute__" :=
  .of (owner := "object") (n := "__getattribute__") (by rw [typeLookup_type, builtinLookup_eq_fast]; kernel_rfl) (by decide +kernel) (by decide +kernel) (by decide +kernel)
    (by first | exact .inl (by decide +kernel) | exact .inr (by decide +kernel)) (by rw [isSubtype_type]; kernel_rfl)
theorem fn_mro : mroOf (.type "function") = pure [.type "function", .type "object"] := by kernel_rfl
theorem fn_ga : typeLookup (.type "function") "__getattr__" = pure none := by rw [typeLookup_type, builtinLookup_eq_fast]; kernel_rfl
theorem entry_ga : entryFor table "object.__getattribute__" = some Builtin.«object.__getattribute__» := entryFor_of_tree (by kernel_rfl)
theorem args_ga (a b : Value) : argsOk "object.__getattribute__" ⟨[a, b], []⟩ := by unfold argsOk; kernel_rfl
theorem entry_sa : entryFor table "object.__setattr__" = some Builtin.«object.__setattr__» := entryFor_of_tree (by kernel_rfl)
theorem args_sa (a b c : Value) : argsOk "object.__setattr__" ⟨[a, b, c], []⟩ := by unfold argsOk; kernel_rfl
theorem fn_passes (self : Value) : refuseLoop self "__setattr__" [.type "function", .type "object"] = pure () := by kernel_rfl
theorem no_span : typeLookup (.type "function") (Str.ofString "span") = pure none := by rw [typeLookup_type, builtinLookup_eq_fast]; kernel_rfl
theorem no_start : typeLookup (.type "function") (Str.ofString "start") = pure none := by rw [typeLookup_type, builtinLookup_eq_fast]; kernel_rfl
theorem no_end : typeLookup (.type "function") (Str.ofString "end") = pure none := by rw [typeLookup_type, builtinLookup_eq_fast]; kernel_rfl
theorem no_search : typeLookup (.type "function") (Str.ofString "search") = pure none := by rw [typeLookup_type, builtinLookup_eq_fast]; kernel_rfl
section
variable {prog : Program} {w : World} {A : Around} {E : Value → Shared → Prop} {s : Shared} {x d : Addr} {o : Obj} {mA : Str → Option Value} {name : Str} {v : Value}
theorem fn_getMethod {pl : Sem Bool} {Q : Value × List Value → Shared → Prop} (hx : s.heap.get? x = some o) (hc : o.cls = .type "function") (hnc : ∀ c, o.data ≠ .cls c) (hd : o.dict = some d) (hns : s.heap.Ns d mA)
    (hB : typeLookup (.type "function") name = pure none) (hv : mA name = some v) (hh : handedOut v = pure v) (h : Q (v, []) { s with toks := s.toks + 1 }) :
    wpAny (model prog w) A (getMethod (.ref x) name pl) Q E s := by
  have hT : s.TypeIs (.ref x) "function" := ⟨o, hx, hc⟩
  unfold getMethod
  refine wpAny_bind (wpAny_specialOf hT fn_slot_ga.lookup ?_)
  show wpAny _ _ (if (Manifest.canonical "object.__getattribute__" != "object.__getattribute__") = true then _ else _) _ _ s
  rw [show (Manifest.canonical "object.__getattribute__" != "object.__getattribute__") = false from by decide +kernel, if_neg Bool.false_ne_true]
  refine wpAny_bind (wpAny_specialOf hT fn_ga ?_)
  refine wpAny_bind (wpAny_specialOf hT hB ?_)
  show wpAny _ _ (do return (← getAttr (.ref x) name, [])) _ _ _
  refine wpAny_bind ?_
  unfold getAttr getAttrBy
  repeat (first | (with_reducible refine wpAny_loadPart_at hx ?_; rw [hc]) | (with_reducible refine wpAny_typeOf hT ?_) | (rw [fn_slot_ga.lookup]) | wp_step)
  rw [fn_slot_ga.bind]
  refine wpAny_pure ?_
  show wpAny _ _ (call (.builtin "object.__getattribute__") ([.ref x, .str name s.toks])) _ _ _
  refine wpAny_call_entry fn_slot_ga (show Shared.TypeIs ⟨s.heap, s.gens, s.drawn, s.toks + 1, s.os⟩ _ _ from hT) entry_ga ?_ (args_ga _ _)
  unfold Builtin.«object.__getattribute__»
  repeat (first | (with_reducible refine wpAny_loadPart_at hx ?_; rw [hc]) | (with_reducible refine wpAny_typeOf hT ?_) | (rw [hB]) | wp_step)
  split
  · rename_i c hcd
    exact absurd hcd (hnc c)
  unfold instanceDict
  repeat (first | (with_reducible refine wpAny_loadPart_at hx ?_; rw [hc]) | wp_step)
  rw [hd]
  repeat (first | (with_reducible refine wpAny_nsGet hns ?_; rw [hv]) | wp_step)
  refine ⟨v, rfl, ?_⟩
  show wpAny _ _ (handedOut v) _ _ _
  rw [hh]
  exact wpAny_pure (wpAny_pure h)
/-- the own dict of a function object -/
def FnD (h : Heap) (x : Addr) (o : Obj) (mA : Str → Option Value) : Prop := (o.dict = none ∧ ∀ n, mA n = none) ∨ ∃ d, o.dict = some d ∧ d ≠ x ∧ h.Ns1 d mA
theorem fn_setAttr {ns : List Str} {Q : Unit → Shared → Prop} (hx : s.heap.get? x = some o) (hc : o.cls = .type "function") (hnc : ∀ c, o.data ≠ .cls c) (hd : FnD s.heap x o mA)
    (hB : typeLookup (.type "function") name = pure none)
    (h : ∀ h' tk' o' d', h'.get? x = some o' → o' = { o with dict := some d' } → (∀ d, o.dict = some d → d' = d) → (o.dict = none → s.heap.objs.size ≤ d') → d' ≠ x → h'.Ns1 d' (fun y => if y = name then some v else mA y) →
      (∀ b ob, b ≠ x → b ≠ d' → s.heap.get? b = some ob → h'.get? b = some ob) → Q () { s with heap := h', toks := tk' })
    (hw : Within mA ns) (hsz : ns.length + 1 ≤ sizeLine) :
    wpAny (model prog w) A (setAttr (.ref x) name v) Q E s := by
  have hT : s.TypeIs (.ref x) "function" := ⟨o, hx, hc⟩
  have hpass := fn_passes (.ref x)
  unfold setAttr
  refine wpAny_bind (wpAny_mkText ?_)
  refine wpAny_bind ?_
  refine wpAny_callSpecial?_slot (show Shared.TypeIs ⟨s.heap, s.gens, s.drawn, s.toks + 1, s.os⟩ (.ref x) "function" from hT) fn_slot_sa ?_
  refine wpAny_call_entry fn_slot_sa (show Shared.TypeIs ⟨s.heap, s.gens, s.drawn, s.toks + 1, s.os⟩ (.ref x) "function" from hT) entry_sa ?_ (args_sa _ _ _)
  unfold Builtin.«object.__setattr__»
  repeat (first | rw [refuse_eq] | (rw [fn_mro]) | (rw [hpass]) | (with_reducible refine wpAny_loadPart_at hx ?_; rw [hc]) | (rw [hB]) | wp_step)
  rcases hd with ⟨hdn, hmA⟩ | ⟨dx, hdx, hne, hns⟩
  · rw [hdn, if_neg (by rw [show typeHasDict (.type "function") = true from by kernel_rfl]; decide)]
    split
    · rename_i hcd
      cases hcd
    split
    · rename_i c hcd
      exact absurd hcd (hnc c)
    · have hx₁ : (s.heap.push { cls := .type "dict", data := .dict #[] }).get? x = some o := Heap.get?_push_of_some _ hx
      have hxs : x ≠ s.heap.objs.size := Nat.ne_of_lt (Heap.lt_size hx)
      refine wpAny_bind (wpAny_alloc' ?_)
      refine wpAny_bind (wpAny_update' hx₁ ?_)
      refine wpAny_of_eq (show dictMade (.type "function") x s.heap.objs.size = pure (some s.heap.objs.size) from by kernel_rfl) ?_
      have hgd : ((s.heap.push { cls := .type "dict", data := .dict #[] }).update x fun o => { cls := o.cls, dict := some s.heap.objs.size, data := o.data, slots := o.slots }).get? s.heap.objs.size
          = some { cls := .type "dict", data := .dict #[] } :=
        (Heap.get?_update_ne _ _ _ _ hxs.symm).trans (Heap.get?_push_at rfl rfl)
      have hnd : ((s.heap.push { cls := .type "dict", data := .dict #[] }).update x fun o => { cls := o.cls, dict := some s.heap.objs.size, data := o.data, slots := o.slots }).Ns s.heap.objs.size (fun _ => none) :=
        ⟨_, #[], _, hgd, rfl, fun e he => absurd he (by simp), fun _ => rfl⟩
      show wpAny _ _ (storeInDict s.heap.objs.size (.str name s.toks) name v) _ _ _
      unfold storeInDict newKeyGuard
      refine wpAny_bind (wpAny_pure (wpAny_bind (wpAny_nsSet1 (Heap.Ns1.of_empty hnd) fun h' hn' hs => ?_)))
      obtain ⟨oD, esD, epD, hoD, hdD, hcD⟩ := hn'.count (Within.cons name v Within.nil)
      refine wpAny_bind (wpAny_lookBehind hoD (by rw [hdD]; exact pastItsLine_dict (Nat.le_trans hcD (by rw [List.length_cons, List.length_nil, sizeLine_eq]; omega))) ?_)
      have hx' : h'.get? x = some { cls := o.cls, dict := some s.heap.objs.size, data := o.data, slots := o.slots } := by
        refine (hs.2 x hxs).trans (Heap.get?_update_self _ hx₁ ?_)
        have hfr := (Heap.get?_some_iff.mp hx).2
        obtain ⟨oc, od, odt, osl⟩ := o
        cases odt <;> first | rfl | exact hfr
      refine wpAny_pure ⟨.none, rfl, wpAny_pure ?_⟩
      refine h h' _ _ s.heap.objs.size hx' rfl (fun d e => by rw [hdn] at e; cases e) (fun _ => Nat.le_refl _) hxs.symm ?_ (fun b ob hbx _ hb => ?_)
      · obtain ⟨o', es, ep, e1, e2, e3, eu, e4⟩ := hn'
        exact ⟨o', es, ep, e1, e2, e3, eu, fun y => by rw [e4 y]; by_cases hy : y = name <;> simp [hy, hmA]⟩
      · exact (hs.2 b (Nat.ne_of_lt (Heap.lt_size hb))).trans ((Heap.get?_update_ne _ _ _ _ hbx).trans (Heap.get?_push_of_some _ hb))
  · rw [hdx]
    refine wpAny_pure ?_
    show wpAny _ _ (storeInDict dx (.str name s.toks) name v) _ _ _
    unfold storeInDict newKeyGuard
    refine wpAny_bind (wpAny_pure (wpAny_bind (wpAny_nsSet1 (show Heap.Ns1 _ _ _ from hns) fun h' hn' hs => ?_)))
    obtain ⟨oD, esD, epD, hoD, hdD, hcD⟩ := hn'.count (Within.cons name v hw)
    refine wpAny_bind (wpAny_lookBehind hoD (by rw [hdD]; exact pastItsLine_dict (Nat.le_trans hcD (by rw [List.length_cons]; omega))) ?_)
    refine wpAny_pure ⟨.none, rfl, wpAny_pure ?_⟩
    refine h h' _ { o with dict := some dx } dx ?_ rfl (fun d e => by rw [hdx] at e; exact Option.some.inj e) (fun e => by rw [hdx] at e; cases e) hne hn' (fun b ob _ hbd hb => (hs.2 b hbd).trans hb)
    rw [show ({ o with dict := some dx } : Obj) = o by rw [← hdx]]
    exact (hs.2 x hne.symm).trans hx
end
def NsObj1 (o : Obj) (m : Str → Option Value) : Prop := ∃ es ep, o.data = .dict es ep ∧ StrKeys es ∧ UniqKeys es ∧ ∀ name, nsFind es name = m name
theorem NsObj1.ns {h : Heap} {d : Addr} {o : Obj} {m : Str → Option Value} (x : NsObj1 o m) (e : h.get? d = some o) : h.Ns1 d m := let ⟨es, ep, r⟩ := x; ⟨o, es, ep, e, r⟩
theorem ns_obj1 {h : Heap} {C : Addr} {m : Str → Option Value} (x : h.Ns1 C m) : ∃ o, h.get? C = some o ∧ NsObj1 o m := let ⟨o, es, ep, e, r⟩ := x; ⟨o, e, es, ep, r⟩
section
variable {prog : Program} {w : World} {A : Around} {E : Value → Shared → Prop} {s : Shared} {x d : Addr} {o dob : Obj} {mA : Str → Option Value} {name : Str} {v : Value}
  {h₀ : Heap} {L : Addr} {m : Str → Option Value} {news : List (Addr × Obj)} {g : Obj → List (Addr × Obj)}
theorem fn_set0 {Q : Unit → Shared → Prop} (F : Fr h₀ L s.heap m) (N : News h₀ L s.heap news) (U : UpdF x o news g) (hc : o.cls = .type "function") (hnc : ∀ c, o.data ≠ .cls c) (hdn : o.dict = none)
    (hB : typeLookup (.type "function") name = pure none)
    (h : ∀ h' d dob tk, Fr h₀ L h' m → News h₀ L h' ((d, dob) :: g { o with dict := some d }) → NsObj1 dob (fun y => if y = name then some v else none) → (∀ p ∈ news, p.1 < d) → Q () { s with heap := h', toks := tk }) :
    wpAny (model prog w) A (setAttr (.ref x) name v) Q E s := by
  obtain ⟨own, rest, rfl, hg, h1, h2⟩ := U.split
  have hm := N (x, o) (List.mem_append_right _ (.head _))
  refine fn_setAttr (mA := fun _ => none) (ns := []) hm.1 hc hnc (.inl ⟨hdn, fun _ => rfl⟩) hB (fun h' tk' o' d' hx' he _ hge hne hns hk => ?_) Within.nil (by rw [sizeLine_eq]; decide)
  subst he
  obtain ⟨dob, hd, hno⟩ := ns_obj1 hns
  have hge := hge hdn
  have lt : ∀ p ∈ own ++ (x, o) :: rest, p.1 < d' := fun p hp => Nat.lt_of_lt_of_le (Heap.lt_size (N p hp).1) hge
  have hL : L < d' := Nat.lt_of_lt_of_le F.ns.lt hge
  have kk : ∀ b ob, b < d' → b ≠ x → s.heap.get? b = some ob → h'.get? b = some ob := fun b ob hb hbx e => hk b ob hbx (Nat.ne_of_lt hb) e
  refine h h' d' dob tk' ⟨F.ns.at' fun ob e => kk _ _ hL (Ne.symm hm.2.1) e, fun b ob e => kk b ob (Nat.lt_of_lt_of_le (Heap.lt_size (F.keep _ _ e)) hge) (fun q => by rw [q, hm.2.2] at e; cases e) (F.keep b ob e), F.above⟩ ?_ hno lt
  rw [hg]
  intro p hp
  rcases List.mem_cons.mp hp with rfl | hp
  · exact ⟨hd, Nat.ne_of_gt hL, Heap.get?_none_of_le (Nat.le_trans F.above (Nat.le_of_lt hL))⟩
  · rcases List.mem_append.mp hp with hp | hp
    · have n := N p (List.mem_append_left _ hp)
      exact ⟨kk _ _ (lt p (List.mem_append_left _ hp)) (h1 p hp) n.1, n.2⟩
    · rcases List.mem_cons.mp hp with rfl | hp
      · exact ⟨hx', hm.2⟩
      · have n := N p (List.mem_append_right _ (.tail _ hp))
        exact ⟨kk _ _ (lt p (List.mem_append_right _ (.tail _ hp))) (h2 p hp) n.1, n.2⟩
theorem fn_set1 {Q : Unit → Shared → Prop} {ns : List Str} (F : Fr h₀ L s.heap m) (N : News h₀ L s.heap news) (hm : (x, o) ∈ news) (hc : o.cls = .type "function") (hnc : ∀ c, o.data ≠ .cls c) (hdd : o.dict = some d) (hxd : d ≠ x) (U : UpdF d dob news g) (hn : NsObj1 dob mA)
    (hB : typeLookup (.type "function") name = pure none) (hw : Within mA ns) (hsz : ns.length + 1 ≤ sizeLine)
    (h : ∀ h' dob' tk, Fr h₀ L h' m → News h₀ L h' (g dob') → NsObj1 dob' (fun y => if y = name then some v else mA y) → Q () { s with heap := h', toks := tk }) :
    wpAny (model prog w) A (setAttr (.ref x) name v) Q E s := by
  obtain ⟨own, rest, rfl, hg, h1, h2⟩ := U.split
  have hx := N (x, o) hm
  have hd := N (d, dob) (List.mem_append_right _ (.head _))
  refine fn_setAttr hx.1 hc hnc (.inr ⟨d, hdd, hxd, hn.ns hd.1⟩) hB (fun h' tk' o' d' hx' he hd' _ hne hns hk => ?_) hw hsz
  obtain rfl := hd' d hdd
  subst he
  rw [show ({ o with dict := some d' } : Obj) = o by rw [← hdd]] at hx'
  obtain ⟨dob', hdb, hno⟩ := ns_obj1 hns
  have kk : ∀ b ob, b ≠ d' → s.heap.get? b = some ob → h'.get? b = some ob := fun b ob hb e => by
    by_cases hbx : b = x
    · subst hbx; rw [hx.1] at e; cases e; exact hx'
    · exact hk b ob hbx hb e
  refine h h' dob' tk' ⟨F.ns.at' fun ob e => kk _ _ (Ne.symm hd.2.1) e, fun b ob e => kk b ob (fun q => by rw [q, hd.2.2] at e; cases e) (F.keep b ob e), F.above⟩ ?_ hno
  rw [hg]
  intro p hp
  rcases List.mem_append.mp hp with hp | hp
  · have n := N p (List.mem_append_left _ hp)
    exact ⟨kk _ _ (h1 p hp) n.1, n.2⟩
  · rcases List.mem_cons.mp hp with rfl | hp
    · exact ⟨hdb, hd.2⟩
    · have n := N p (List.mem_append_right _ (.tail _ hp))
      exact ⟨kk _ _ (h2 p hp) n.1, n.2⟩
theorem fn_get {pl : Sem Bool} {Q : Value × List Value → Shared → Prop} (N : News h₀ L s.heap news) (hm : (x, o) ∈ news) (hmd : (d, dob) ∈ news) (hc : o.cls = .type "function") (hnc : ∀ c, o.data ≠ .cls c) (hdd : o.dict = some d) (hn : NsObj1 dob mA)
    (hB : typeLookup (.type "function") name = pure none) (hv : mA name = some v) (hh : handedOut v = pure v) (h : Q (v, []) { s with toks := s.toks + 1 }) :
    wpAny (model prog w) A (getMethod (.ref x) name pl) Q E s :=
  fn_getMethod (N _ hm).1 hc hnc hdd (hn.ns (N _ hmd).1).ns hB hv hh h
end
end Mine
end

section -- HT
open PySem PySem.W PyProof.Rows PyProof.Rows.LCg
set_option maxRecDepth 100000
namespace Mine
theorem off_HT : True := by (w_top off; trivial)
abbrev lawProg : Program := PySem.Challenge.rw_il0002_01.row.prog
abbrev lamQual : Str := ((Str.ofString "_law_hit") ++ (Str.ofString ".<locals>.")) ++ (Str.ofString "<lambda>")
abbrev tab4 (c0 c1 c2 c3 : Addr) : Array Value := #[rawInt 84, rawInt 10, .ref c0, rawInt 85, rawInt 15, .ref c1, rawInt 86, rawInt 16, .ref c2, rawInt 87, rawInt 14, .ref c3]
def CodeIn (l : List (Addr × Obj)) (c : Addr) : Prop := ∃ oc vs t, (c, oc) ∈ l ∧ oc.data = .fields vs ∧ vs[1]? = some (.str lamQual t)
theorem CodeIn.of {l : List (Addr × Obj)} {c : Addr} {oc : Obj} {vs : Array Value} {t : Tok} (h : (c, oc) ∈ l) (hd : oc.data = .fields vs) (hv : vs[1]? = some (.str lamQual t)) : CodeIn l c := ⟨oc, vs, t, h, hd, hv⟩
def CodesIn (l : List (Addr × Obj)) (c0 c1 c2 c3 : Addr) : Prop := CodeIn l c0 ∧ CodeIn l c1 ∧ CodeIn l c2 ∧ CodeIn l c3
def FnIn (l : List (Addr × Obj)) (f : Addr) : Prop := ∃ oc od fd sl, (f, (⟨oc, od, .func fd, sl⟩ : Obj)) ∈ l
theorem FnIn.mono {l l' : List (Addr × Obj)} {f : Addr} (x : FnIn l f) (k : ∀ q ∈ l, q ∈ l') : FnIn l' f := let ⟨oc, od, fd, sl, h⟩ := x; ⟨oc, od, fd, sl, k _ h⟩
theorem FnIn.at {l news : List (Addr × Obj)} {f : Addr} {h₀ h : Heap} {L : Addr} (x : FnIn l f) (N : News h₀ L h news) (k : ∀ q ∈ l, q ∈ news) : FnAt f h := let ⟨oc, od, fd, sl, hm⟩ := x; ⟨oc, od, fd, sl, (N _ (k _ hm)).1⟩
/-- calling the function object f gives an int n, wherever the objects of l are on the ledger -/
def LamInt (w : World) (p : Program) (loose : List Str) (mean : ExcName → Option Value) (mg mb : Str → Option Value) (l : List (Addr × Obj)) (f : Addr) (n : Int) : Prop :=
  FnIn l f ∧ ∀ (dp un : Nat) (gd : Option (List Code)) (cn : Str) (cs : Scope) (a : Addr) (ccd : Value) (cl : List (Str × Addr)) (outer : List Env) (A₀ : Around) (base h₀ : Heap) (L : Addr) (m : Str → Option Value) (news : List (Addr × Obj)) (s : Shared) (Q E : Value → Shared → Prop),
    Below A₀ base outer h₀ → Fr h₀ L s.heap m → (hd.heap_39 w.params).In h₀ → News h₀ L s.heap news → Top p loose mean mg mb h₀ → cs.kind = .function → dp + 4 < recursionLimit → (∀ q ∈ l, q ∈ news) →
    (∀ t h' tk', Fr h₀ L h' m → News h₀ L h' news → Q (.int n t) { s with heap := h', toks := tk' }) →
    wpAny (model PySem.Challenge.rw_il0002_01.row.prog w) (ktrTop dp un gd cn cs L a ccd cl outer) (call (.ref f) []) Q E s
abbrev tupO (x y : Value) : Obj := { cls := .type "tuple", data := .seq #[x, y] }
def LamPair (w : World) (p : Program) (loose : List Str) (mean : ExcName → Option Value) (mg mb : Str → Option Value) (l : List (Addr × Obj)) (f : Addr) (i j : Int) : Prop :=
  FnIn l f ∧ ∀ (dp un : Nat) (gd : Option (List Code)) (cn : Str) (cs : Scope) (a : Addr) (ccd : Value) (cl : List (Str × Addr)) (outer : List Env) (A₀ : Around) (base h₀ : Heap) (L : Addr) (m : Str → Option Value) (news : List (Addr × Obj)) (s : Shared) (Q E : Value → Shared → Prop),
    Below A₀ base outer h₀ → Fr h₀ L s.heap m → (hd.heap_39 w.params).In h₀ → News h₀ L s.heap news → Top p loose mean mg mb h₀ → cs.kind = .function → dp + 4 < recursionLimit → (∀ q ∈ l, q ∈ news) →
    (∀ q t u h' tk', Fr h₀ L h' m → News h₀ L h' ((q, tupO (.int i t) (.int j u)) :: news) → (∀ p ∈ news, p.1 < q) → Q (.ref q) { s with heap := h', toks := tk' }) →
    wpAny (model PySem.Challenge.rw_il0002_01.row.prog w) (ktrTop dp un gd cn cs L a ccd cl outer) (call (.ref f) []) Q E s
def HitIn (w : World) (p : Program) (loose : List Str) (mean : ExcName → Option Value) (mg mb : Str → Option Value) (l : List (Addr × Obj)) (f : Addr) (n : Int) : Prop :=
  ∃ fo d dob f1 f2 f3, (f, fo) ∈ l ∧ fo.cls = .type "function" ∧ (∀ c, fo.data ≠ .cls c) ∧ fo.dict = some d ∧ (d, dob) ∈ l ∧
    NsObj1 dob (fun y => if y = "end" then some (.ref f3) else if y = "start" then some (.ref f2) else if y = "span" then some (.ref f1) else none) ∧
    LamInt w p loose mean mg mb l f3 (n + 2) ∧ LamInt w p loose mean mg mb l f2 n ∧ LamPair w p loose mean mg mb l f1 n (n + 2)
theorem LamInt.mono {w : World} {p : Program} {loose : List Str} {mean : ExcName → Option Value} {mg mb : Str → Option Value} {l l' : List (Addr × Obj)} {f : Addr} {n : Int} (x : LamInt w p loose mean mg mb l f n) (k : ∀ q ∈ l, q ∈ l') : LamInt w p loose mean mg mb l' f n :=
  ⟨x.1.mono k, fun dp un gd cn cs a ccd cl outer A₀ base h₀ L m news s Q E B F X N T hk hd sub hr => x.2 dp un gd cn cs a ccd cl outer A₀ base h₀ L m news s Q E B F X N T hk hd (fun q hq => sub q (k q hq)) hr⟩
theorem LamPair.mono {w : World} {p : Program} {loose : List Str} {mean : ExcName → Option Value} {mg mb : Str → Option Value} {l l' : List (Addr × Obj)} {f : Addr} {i j : Int} (x : LamPair w p loose mean mg mb l f i j) (k : ∀ q ∈ l, q ∈ l') : LamPair w p loose mean mg mb l' f i j :=
  ⟨x.1.mono k, fun dp un gd cn cs a ccd cl outer A₀ base h₀ L m news s Q E B F X N T hk hd sub hr => x.2 dp un gd cn cs a ccd cl outer A₀ base h₀ L m news s Q E B F X N T hk hd (fun q hq => sub q (k q hq)) hr⟩
theorem HitIn.mono {w : World} {p : Program} {loose : List Str} {mean : ExcName → Option Value} {mg mb : Str → Option Value} {l l' : List (Addr × Obj)} {f : Addr} {n : Int} (x : HitIn w p loose mean mg mb l f n) (k : ∀ q ∈ l, q ∈ l') : HitIn w p loose mean mg mb l' f n :=
  let ⟨fo, d, dob, f1, f2, f3, h1, h2, h3, h4, h5, h6, h7, h8, h9⟩ := x
  ⟨fo, d, dob, f1, f2, f3, k _ h1, h2, h3, h4, k _ h5, h6, h7.mono k, h8.mono k, h9.mono k⟩
theorem CodeIn.mono {l l' : List (Addr × Obj)} {c : Addr} (x : CodeIn l c) (k : ∀ q ∈ l, q ∈ l') : CodeIn l' c := let ⟨oc, vs, t, h1, r⟩ := x; ⟨oc, vs, t, k _ h1, r⟩
theorem CodesIn.mono {l l' : List (Addr × Obj)} {c0 c1 c2 c3 : Addr} (x : CodesIn l c0 c1 c2 c3) (k : ∀ q ∈ l, q ∈ l') : CodesIn l' c0 c1 c2 c3 := ⟨x.1.mono k, x.2.1.mono k, x.2.2.1.mono k, x.2.2.2.mono k⟩
theorem news_sub {h₀ h : Heap} {L : Addr} {l l' : List (Addr × Obj)} (N : News h₀ L h l) (k : ∀ q ∈ l', q ∈ l) : News h₀ L h l' := fun q hq => N q (k q hq)
theorem news_more {h₀ h : Heap} {L : Addr} {l l' : List (Addr × Obj)} (N : News h₀ L h l) (k : ∀ q ∈ l', q ∈ l) : News h₀ L h (l' ++ l) := fun q hq => N q (by
  rcases List.mem_append.mp hq with hq | hq
  · exact k q hq
  · exact hq)
theorem news_hd {h₀ h : Heap} {L : Addr} {x : Addr × Obj} {l r : List (Addr × Obj)} (N : News h₀ L h (x :: r)) (k : ∀ q ∈ l, q ∈ r) : News h₀ L h (x :: l) := fun q hq => by
  rcases List.mem_cons.mp hq with rfl | hq
  · exact N _ (.head _)
  · exact N q (.tail _ (k q hq))
theorem news_add {h₀ h : Heap} {L : Addr} {x : Addr × Obj} {r : List (Addr × Obj)} (N : News h₀ L h r) (k : x ∈ r) : News h₀ L h (x :: r) := fun q hq => by
  rcases List.mem_cons.mp hq with rfl | hq
  · exact N _ k
  · exact N q hq
theorem mem_tail6 {x a b c d e f : Addr × Obj} {l : List (Addr × Obj)} (h : x ∈ l) : x ∈ a :: b :: c :: d :: e :: f :: l := .tail _ (.tail _ (.tail _ (.tail _ (.tail _ (.tail _ h)))))
theorem mem_tail7 {x a b c d e f g : Addr × Obj} {l : List (Addr × Obj)} (h : x ∈ l) : x ∈ a :: b :: c :: d :: e :: f :: g :: l := .tail _ (mem_tail6 h)
theorem mem_tail8 {x a b c d e f g i : Addr × Obj} {l : List (Addr × Obj)} (h : x ∈ l) : x ∈ a :: b :: c :: d :: e :: f :: g :: i :: l := .tail _ (mem_tail7 h)
theorem news_rot {h₀ h : Heap} {L : Addr} {l r : List (Addr × Obj)} {x : Addr × Obj} (N : News h₀ L h (l ++ x :: r)) : News h₀ L h (x :: (l ++ r)) := fun q hq => N q (by
  rcases List.mem_cons.mp hq with rfl | hq
  · exact List.mem_append_right _ (.head _)
  · rcases List.mem_append.mp hq with hq | hq
    · exact List.mem_append_left _ hq
    · exact List.mem_append_right _ (.tail _ hq))
/-- ext lies above everything of nw -/
def Above (ext nw : List (Addr × Obj)) : Prop := ∃ b : Nat, 102 < b ∧ (∀ p ∈ nw, p.1 < b) ∧ ∀ p ∈ ext, b ≤ p.1
theorem leN {a b : Nat} (h : a ≤ b) : a ≤ b := h
theorem allNe_of_le {l : List (Addr × Obj)} {b d : Nat} (h : ∀ p ∈ l, p.1 < b) (hb : b ≤ d) : ∀ p ∈ l, p.1 ≠ d := fun p hp => Nat.ne_of_lt (Nat.lt_of_lt_of_le (h p hp) hb)
section
variable {w : World} {p : Program} {loose : List Str} {mean : ExcName → Option Value} {mg mb : Str → Option Value}
  {cn : Str} {cs : Scope} {a : Addr} {ccd : Value} {h₀ : Heap} {L : Addr} {m : Str → Option Value} {nw : List (Addr × Obj)} {s : Shared} {Q E : Value → Shared → Prop}
local macro_rules | `(tactic| k_room) => `(tactic| ktr_room)
local macro_rules | `(tactic| walk_at "call type:type") => `(tactic| (k_here; (with_reducible show wpAny _ _ (call (Value.type "type") [Value.bytes _ _]) _ _ _); refine call_type_of (typeIs_bytes _ _ _) (by decide +kernel) ?_))
local macro_rules | `(tactic| walk_at "call type:type") => `(tactic| (k_here; (with_reducible show wpAny _ _ (call (Value.type "type") [Value.str _ _]) _ _ _); refine call_type_of (typeIs_str _ _ _) (by decide +kernel) ?_))
local macro_rules | `(tactic| walk_at "call ref") => `(tactic| (k_here; (with_reducible show wpAny _ _ (call (Value.ref 78) [Value.int _ _]) _ _ _); k_dflt (refine' hex_spec ?B ?F ?K ?N ?T ?k ?d _ _ ?_; (case B => k_asm); (case F => k_asm); (case K => k_asm); (case N => k_asm); (case T => k_asm); (case k => first | exact rfl | assumption); (case d => ktr_room); intro t9 h9 tk9 F9 N9; (try dsimp only); (try k_sweep))))
local macro_rules | `(tactic| walk_at "subscriptTail") => `(tactic| (k_here; (with_reducible show wpAny _ _ (subscriptTail _ _ (Value.bytes _ _) (Value.int _ _)) _ _ _); (refine bytes_item ?z ?a ?b ?_; (case z => omega); (case a => omega); (case b => omega)); intro t9 k9))
local macro_rules | `(tactic| k_all) => `(tactic| first | exact allNe_of_lt (by assumption) | exact allNe_of_lt (allLt_back (by assumption)))
local macro_rules | `(tactic| walk_at "call builtin:list.append") => `(tactic| (k_here; (with_reducible show wpAny _ _ (call (Value.builtin _) [Value.ref _, _]) _ _ _); k_dflt (refine' append_K ?k1 ?k2 ?k3 ?_ ?z; (case k1 => k_asm); (case k2 => k_asm); (case k3 => k_upd); (case z => (rw [PySem.sizeLine_eq]; omega)); k_whole); intro h' F' N'; (try k_sweep)))
local macro_rules | `(tactic| ksw_same) => `(tactic| (intro z h2 h3; (simp only [List.forall_mem_cons, List.not_mem_nil, false_implies, implies_true, and_true, ne_eq] at h2); (have h4 := h3); (simp only [List.contains_cons, List.contains_nil, Bool.or_false, Bool.or_eq_false_iff, beq_eq_false_iff_ne, ne_eq] at h4); (simp [kstB, h2, h3, h4]; done)))
local macro_rules | `(tactic| walk_at "call ref") => `(tactic| (k_here; (with_reducible show wpAny _ _ (call (Value.ref 85) [Value.bytes _ _]) _ _ _); k_dflt (refine' a2b_spec ?B ?F ?K ?N ?T ?k ?d _ _ ?z ?e ?kn ?_; (case B => k_asm); (case F => k_asm); (case K => k_asm); (case N => k_asm); (case T => k_asm); (case k => first | exact rfl | assumption); (case d => ktr_room); (case z => omega); (case e => assumption); (case kn => exact known_of (by assumption)); intro t9 h9 tk9 F9 N9; (try dsimp only); (try k_sweep))))
local macro_rules | `(tactic| walk_at "getMethod str") => `(tactic| (k_here; with_reducible refine getMethod_encode ?_))
local macro_rules | `(tactic| walk_at "getMethod bytes") => `(tactic| (k_here; with_reducible refine getMethod_upper ?_))
local macro_rules | `(tactic| walk_at "call builtin:str.encode") => `(tactic| (k_here; (refine encode_ascii ?a ?b ?_; (case a => assumption); (case b => (rw [PySem.sizeLine_eq]; omega))); intro t9 k9))
local macro_rules | `(tactic| walk_at "call builtin:bytes.upper") => `(tactic| (k_here; (refine bytes_upper ?b ?_; (case b => (rw [PySem.sizeLine_eq]; omega))); intro t9 k9))
local macro_rules | `(tactic| walk_at "getMethod ref") => `(tactic| (k_here; (with_reducible show wpAny _ _ (getMethod (Value.ref 43) _ _) _ _ _); k_dflt (refine' pat_method ?F ?X ?l ?_; (case F => k_asm); (case X => k_asm); (case l => k_is))))
local macro_rules | `(tactic| walk_at "call builtin:re.Pattern.search") => `(tactic| (k_here; k_dflt (first
  | (refine' pat_no ?F ?X ?l ?c ?i ?z ?f ?_; (case f => assumption); (case F => k_asm); (case X => k_asm); (case l => k_is); (case c => k_is); (case i => kernel_rfl); (case z => omega))
  | (refine' pat_yes ?F ?N ?X ?l ?c ?i ?z ?f ?_; (case f => assumption); (case F => k_asm); (case N => k_asm); (case X => k_asm); (case l => k_is); (case c => k_is); (case i => kernel_rfl); (case z => omega); intro M9 h9 F9 N9 T9; (try k_sweep)))))
local macro_rules | `(tactic| walk_at "truthy ref") => `(tactic| (k_here; refine truthy_typed (by assumption) match_no_bool match_no_len ?_))
local macro_rules | `(tactic| walk_at "truthOfDropped ref") => `(tactic| (k_here; refine truthOfDropped_typed (by assumption) match_no_bool match_no_len ?_))
local macro_rules | `(tactic| walk_at "call type:str") => `(tactic| (k_here; (with_reducible show wpAny _ _ (call (Value.type "str") [Value.ref _]) _ _ _); (with_reducible rename Got _ _ _ _ _ => gX); k_dflt (refine' str_of_own ?X ?u (excOwn_of ?N gX) ?f ?s ?_; (case X => k_in); (case u => exact Nat.le_of_ble_eq_true rfl); (case N => k_asm); (case f => k_is); (case s => k_is))))
local macro_rules | `(tactic| k_all) => `(tactic| first | assumption | (refine allNe_of_le (b := ?bb) ?hh ?bd; (case hh => assumption); (case bd => omega)))
local macro_rules | `(tactic| walk_at "setAttr ref") => `(tactic| (k_here; k_dflt (first
  | (refine' fn_set1 ?F ?N ?m ?hc ?c ?hd ?x ?U ?n ?B ?w ?z ?_; (case n => assumption); (case F => k_asm); (case N => k_asm); (case m => k_mem); (case hc => exact rfl); (case hd => exact rfl); (case c => (intro _ e; cases e)); (case U => k_updF); (case x => k_ne); (case B => first | exact no_span | exact no_start | exact no_end | exact no_search); (case w => within_ways); (case z => (rw [PySem.sizeLine_eq]; decide)); intro h9 b9 t9 F9 N9 n9; (try dsimp only at N9))
  | (refine' fn_set0 ?F ?N ?U ?hc ?c ?hd ?B ?_; (case F => k_asm); (case N => k_asm); (case U => k_updF); (case hc => exact rfl); (case hd => exact rfl); (case c => (intro _ e; cases e)); (case B => first | exact no_span | exact no_start | exact no_end | exact no_search); intro h9 d9 b9 t9 F9 N9 n9 l9; (try dsimp only at N9); (try k_lt l9)))))
local macro_rules | `(tactic| walk_at "mem tail") => `(tactic| first | assumption | (refine List.Mem.tail _ ?_; walk_at "mem tail"))
set_option maxHeartbeats 8000000 in
theorem hit_spec0 (B : Below callerA h₀ [] h₀) (F : Fr h₀ L s.heap m) (KX : (hd.heap_39 w.params).In h₀) (N : News h₀ L s.heap ((102, tabObj #[]) :: nw)) (T : Top p loose mean mg mb h₀) (hk : cs.kind = .function)
  (CH : CodeHd h₀ 106 102) (hn : ∀ p ∈ nw, p.1 ≠ 102) (n : Int) (t : Tok)
  (hret : ∀ (f : Addr) (h' : Heap) (tk' : Nat) (ext : List (Addr × Obj)) (c0 c1 c2 c3 : Addr), Fr h₀ L h' m → News h₀ L h' ((102, tabObj (tab4 c0 c1 c2 c3)) :: (ext ++ nw)) → CodesIn ext c0 c1 c2 c3 → HitIn w p loose mean mg mb ext f n → Above ext nw → Q (.ref f) { s with heap := h', toks := tk' }) :
  wpAny (model PySem.Challenge.rw_il0002_01.row.prog w) (callerA.deeper (envOf cn cs L a ccd)) (call (.ref 107) [.int n t]) Q E s := by
  revert KX; k_fill; intro KX
  refine wpAny_call ?_
  k_dflt (refine' code_defC ?k1 ?k2 ?k3 ?k4 ?k5 ?kA ?kF ?kK ?k6 ?k7 ?k8 ?k9 ?kB ?kD ?_ ?c2 ?c3 ?c4; (case kA => exact rfl); (case kF => exact rfl); (case kK => exact hk); (case k1 => k_asm); (case k2 => k_asm); (case k3 => k_asm); (case k4 => k_asm); (case k5 => k_asm); (case k6 => k_is); (case k7 => k_is); (case k8 => k_room); (case k9 => exact BindsTo.of_eq rfl); (case kB => exact rfl); (case kD => decide +kernel); (case c2 => exact rfl); (case c3 => exact rfl); (case c4 => exact rfl); k_whole; intro g' L' h' tk' cells' FG' F' N' Y' B' X' T' l1; (try k_lt l1); k_cells Y'; (try simp only [List.cons_append, List.nil_append] at N'); (try dsimp only); (try k_lift B'); (try k_fold))
  obtain ⟨hb, hbl⟩ := l1
  have hnw : ∀ p ∈ nw, p.1 < L' := allLt_back hbl
  k_steps
  rename Fr h₀ L _ m => kF
  rename News h₀ L _ _ => kN
  refine hret _ _ _ [_, _, _, _, _, _, _, _, _, _] _ _ _ _ kF (news_rot (l := [_, _, _, _, _, _, _, _, _, _]) kN) ?codes ?hit ?above
  case codes =>
    refine' ⟨CodeIn.of ?m0 ?a0 ?b0, CodeIn.of ?m1 ?a1 ?b1, CodeIn.of ?m2 ?a2 ?b2, CodeIn.of ?m3 ?a3 ?b3⟩
    case m0 => k_mem
    case m1 => k_mem
    case m2 => k_mem
    case m3 => k_mem
    case a0 => assumption
    case a1 => assumption
    case a2 => assumption
    case a3 => assumption
    case b0 => assumption
    case b1 => assumption
    case b2 => assumption
    case b3 => assumption
  case above =>
    refine ⟨L' + 1, Nat.lt_succ_of_lt hb, fun q hq => Nat.lt_succ_of_lt (hnw q hq), ?_⟩
    refine List.forall_mem_cons.mpr ⟨?_, List.forall_mem_cons.mpr ⟨?_, List.forall_mem_cons.mpr ⟨?_, List.forall_mem_cons.mpr ⟨?_, List.forall_mem_cons.mpr ⟨?_, List.forall_mem_cons.mpr ⟨?_, List.forall_mem_cons.mpr ⟨?_, List.forall_mem_cons.mpr ⟨?_, List.forall_mem_cons.mpr ⟨?_, List.forall_mem_cons.mpr ⟨?_, List.forall_mem_nil _⟩⟩⟩⟩⟩⟩⟩⟩⟩⟩
    all_goals (refine leN ?_; dsimp only; omega)
  case hit =>
    refine' ⟨_, _, _, _, _, _, ?q1, ?q2, ?q3, ?q4, ?q5, ?q6, ?q7, ?q8, ?q9⟩
    case q1 => k_mem
    case q2 => rfl
    case q4 => rfl
    case q3 => intro c e; cases e
    case q5 => k_mem
    case q6 => assumption
    case q7 =>
      refine ⟨⟨_, _, _, _, by k_mem⟩, ?_⟩
      (
                                                                  intro dp un gd cn1 cs1 a1 ccd1 cl outer A₀ base h₁ L₁ m₁ nw₁ s₁ Q₁ E₁ B₁ F₁ X₁ N₁ T₁ hk₁ hd₁ sub₁ hr₁
                                                                  have N₂ := news_more N₁ sub₁
                                                                  clear N₁ B F KX N T hret hk
                                                                  revert X₁; k_fill; intro X₁
                                                                  simp only [List.cons_append, List.nil_append] at N₂
                                                                  refine wpAny_call ?_
                                                                  k_dflt (refine' kla_code ?k1 ?k2 ?k3 ?k4 ?k5 ?kA ?kF ?kK ?k6 ?k7 ?k8 ?k9 ?kB ?_ ?c2 ?c3 ?c4 ?c5; (case kA => exact rfl); (case kF => exact rfl); (case kK => exact hk₁); (case k1 => k_asm); (case k2 => k_asm); (case k3 => k_asm); (case k4 => k_asm); (case k5 => k_asm); (case k6 => k_mem); (case k7 => exact codeRec_news (by k_asm) (by k_mem) (by assumption) (by assumption)); (case k8 => ktr_room); (case k9 => exact rfl); (case c5 => decide); (case kB => exact locs rfl); (case c2 => exact rfl); (case c3 => exact rfl); (case c4 => exact rfl); k_whole; intro g' L' h' FG' F' N' B' X' T'; (try dsimp only); (try k_lift B'); (try k_fold))
                                                                  k_steps
                                                                  rename Fr h₁ L₁ _ m₁ => kF1
                                                                  rename News h₁ L₁ _ _ => kN1)
      exact hr₁ _ _ _ kF1 (news_sub kN1 fun q hq => by walk_at "mem tail")
    case q8 =>
      refine ⟨⟨_, _, _, _, by k_mem⟩, ?_⟩
      (
                                                                  intro dp un gd cn1 cs1 a1 ccd1 cl outer A₀ base h₁ L₁ m₁ nw₁ s₁ Q₁ E₁ B₁ F₁ X₁ N₁ T₁ hk₁ hd₁ sub₁ hr₁
                                                                  have N₂ := news_more N₁ sub₁
                                                                  clear N₁ B F KX N T hret hk
                                                                  revert X₁; k_fill; intro X₁
                                                                  simp only [List.cons_append, List.nil_append] at N₂
                                                                  refine wpAny_call ?_
                                                                  k_dflt (refine' kla_code ?k1 ?k2 ?k3 ?k4 ?k5 ?kA ?kF ?kK ?k6 ?k7 ?k8 ?k9 ?kB ?_ ?c2 ?c3 ?c4 ?c5; (case kA => exact rfl); (case kF => exact rfl); (case kK => exact hk₁); (case k1 => k_asm); (case k2 => k_asm); (case k3 => k_asm); (case k4 => k_asm); (case k5 => k_asm); (case k6 => k_mem); (case k7 => exact codeRec_news (by k_asm) (by k_mem) (by assumption) (by assumption)); (case k8 => ktr_room); (case k9 => exact rfl); (case c5 => decide); (case kB => exact locs rfl); (case c2 => exact rfl); (case c3 => exact rfl); (case c4 => exact rfl); k_whole; intro g' L' h' FG' F' N' B' X' T'; (try dsimp only); (try k_lift B'); (try k_fold))
                                                                  k_steps
                                                                  rename Fr h₁ L₁ _ m₁ => kF1
                                                                  rename News h₁ L₁ _ _ => kN1)
      exact hr₁ _ _ _ kF1 (news_sub kN1 fun q hq => by walk_at "mem tail")
    case q9 =>
      refine ⟨⟨_, _, _, _, by k_mem⟩, ?_⟩
      (
                                                                  intro dp un gd cn1 cs1 a1 ccd1 cl outer A₀ base h₁ L₁ m₁ nw₁ s₁ Q₁ E₁ B₁ F₁ X₁ N₁ T₁ hk₁ hd₁ sub₁ hr₁
                                                                  have N₂ := news_more N₁ sub₁
                                                                  clear N₁ B F KX N T hret hk
                                                                  revert X₁; k_fill; intro X₁
                                                                  simp only [List.cons_append, List.nil_append] at N₂
                                                                  refine wpAny_call ?_
                                                                  k_dflt (refine' kla_code ?k1 ?k2 ?k3 ?k4 ?k5 ?kA ?kF ?kK ?k6 ?k7 ?k8 ?k9 ?kB ?_ ?c2 ?c3 ?c4 ?c5; (case kA => exact rfl); (case kF => exact rfl); (case kK => exact hk₁); (case k1 => k_asm); (case k2 => k_asm); (case k3 => k_asm); (case k4 => k_asm); (case k5 => k_asm); (case k6 => k_mem); (case k7 => exact codeRec_news (by k_asm) (by k_mem) (by assumption) (by assumption)); (case k8 => ktr_room); (case k9 => exact rfl); (case c5 => decide); (case kB => exact locs rfl); (case c2 => exact rfl); (case c3 => exact rfl); (case c4 => exact rfl); k_whole; intro g' L' h' FG' F' N' B' X' T'; (try dsimp only); (try k_lift B'); (try k_fold))
                                                                  k_steps
                                                                  rename Fr h₁ L₁ _ m₁ => kF1
                                                                  rename News h₁ L₁ _ _ => kN1)
      rename _ ∧ _ => lX
      exact hr₁ _ _ _ _ _ kF1 (news_hd kN1 fun q hq => by walk_at "mem tail") (allLt_back lX.2.2.2.2.2.2.2.2.2.2)
set_option maxHeartbeats 8000000 in
theorem hit_spec1 {c0 c1 c2 c3 : Addr} {cd : List (Addr × Obj)} (B : Below callerA h₀ [] h₀) (F : Fr h₀ L s.heap m) (KX : (hd.heap_39 w.params).In h₀) (N : News h₀ L s.heap ((102, tabObj (tab4 c0 c1 c2 c3)) :: nw)) (T : Top p loose mean mg mb h₀) (hk : cs.kind = .function)
  (CH : CodeHd h₀ 106 102) (hn : ∀ p ∈ nw, p.1 ≠ 102) (hC : CodesIn cd c0 c1 c2 c3) (hcd : ∀ q ∈ cd, q ∈ nw) (n : Int) (t : Tok)
  (hret : ∀ (f : Addr) (h' : Heap) (tk' : Nat) (ext : List (Addr × Obj)), Fr h₀ L h' m → News h₀ L h' ((102, tabObj (tab4 c0 c1 c2 c3)) :: (ext ++ nw)) → HitIn w p loose mean mg mb (ext ++ cd) f n → Above ext nw → Q (.ref f) { s with heap := h', toks := tk' }) :
  wpAny (model PySem.Challenge.rw_il0002_01.row.prog w) (callerA.deeper (envOf cn cs L a ccd)) (call (.ref 107) [.int n t]) Q E s := by
  revert KX; k_fill; intro KX
  refine wpAny_call ?_
  k_dflt (refine' code_defC ?k1 ?k2 ?k3 ?k4 ?k5 ?kA ?kF ?kK ?k6 ?k7 ?k8 ?k9 ?kB ?kD ?_ ?c2 ?c3 ?c4; (case kA => exact rfl); (case kF => exact rfl); (case kK => exact hk); (case k1 => k_asm); (case k2 => k_asm); (case k3 => k_asm); (case k4 => k_asm); (case k5 => k_asm); (case k6 => k_is); (case k7 => k_is); (case k8 => k_room); (case k9 => exact BindsTo.of_eq rfl); (case kB => exact rfl); (case kD => decide +kernel); (case c2 => exact rfl); (case c3 => exact rfl); (case c4 => exact rfl); k_whole; intro g' L' h' tk' cells' FG' F' N' Y' B' X' T' l1; (try k_lt l1); k_cells Y'; (try simp only [List.cons_append, List.nil_append] at N'); (try dsimp only); (try k_lift B'); (try k_fold))
  obtain ⟨hb, hbl⟩ := l1
  have hnw : ∀ p ∈ nw, p.1 < L' := allLt_back hbl
  k_steps
  rename Fr h₀ L _ m => kF
  rename News h₀ L _ _ => kN
  refine hret _ _ _ [_, _, _, _, _, _] kF (news_rot (l := [_, _, _, _, _, _]) kN) ?hit ?above
  case above =>
    refine ⟨L' + 1, Nat.lt_succ_of_lt hb, fun q hq => Nat.lt_succ_of_lt (hnw q hq), ?_⟩
    refine List.forall_mem_cons.mpr ⟨?_, List.forall_mem_cons.mpr ⟨?_, List.forall_mem_cons.mpr ⟨?_, List.forall_mem_cons.mpr ⟨?_, List.forall_mem_cons.mpr ⟨?_, List.forall_mem_cons.mpr ⟨?_, List.forall_mem_nil _⟩⟩⟩⟩⟩⟩
    all_goals (refine leN ?_; dsimp only; omega)
  case hit =>
    obtain ⟨⟨o0, v0, u0, m0, a0, b0⟩, ⟨o1, v1, u1, m1, a1, b1⟩, ⟨o2, v2, u2, m2, a2, b2⟩, ⟨o3, v3, u3, m3, a3, b3⟩⟩ := hC
    refine' ⟨_, _, _, _, _, _, ?q1, ?q2, ?q3, ?q4, ?q5, ?q6, ?q7, ?q8, ?q9⟩
    case q1 => k_mem
    case q2 => rfl
    case q4 => rfl
    case q3 => intro c e; cases e
    case q5 => k_mem
    case q6 => assumption
    case q7 =>
      refine ⟨⟨_, _, _, _, by k_mem⟩, ?_⟩
      (
                                                                  intro dp un gd cn1 cs1 a1 ccd1 cl outer A₀ base h₁ L₁ m₁ nw₁ s₁ Q₁ E₁ B₁ F₁ X₁ N₁ T₁ hk₁ hd₁ sub₁ hr₁
                                                                  have N₂ := news_more N₁ (fun q hq => sub₁ q (List.mem_append_left cd hq))
                                                                  clear N₁ B F KX N T hret hk
                                                                  revert X₁; k_fill; intro X₁
                                                                  simp only [List.cons_append, List.nil_append] at N₂
                                                                  replace N₂ := news_add (news_add (news_add N₂ (mem_tail6 (sub₁ _ (List.mem_append_right _ m3)))) (mem_tail7 (sub₁ _ (List.mem_append_right _ m2)))) (mem_tail8 (sub₁ _ (List.mem_append_right _ m1)))
                                                                  refine wpAny_call ?_
                                                                  k_dflt (refine' kla_code ?k1 ?k2 ?k3 ?k4 ?k5 ?kA ?kF ?kK ?k6 ?k7 ?k8 ?k9 ?kB ?_ ?c2 ?c3 ?c4 ?c5; (case kA => exact rfl); (case kF => exact rfl); (case kK => exact hk₁); (case k1 => k_asm); (case k2 => k_asm); (case k3 => k_asm); (case k4 => k_asm); (case k5 => k_asm); (case k6 => k_mem); (case k7 => exact codeRec_news (by k_asm) (by k_mem) (by assumption) (by assumption)); (case k8 => ktr_room); (case k9 => exact rfl); (case c5 => decide); (case kB => exact locs rfl); (case c2 => exact rfl); (case c3 => exact rfl); (case c4 => exact rfl); k_whole; intro g' L' h' FG' F' N' B' X' T'; (try dsimp only); (try k_lift B'); (try k_fold))
                                                                  k_steps
                                                                  rename Fr h₁ L₁ _ m₁ => kF1
                                                                  rename News h₁ L₁ _ _ => kN1)
      exact hr₁ _ _ _ kF1 (news_sub kN1 fun q hq => by walk_at "mem tail")
    case q8 =>
      refine ⟨⟨_, _, _, _, by k_mem⟩, ?_⟩
      (
                                                                  intro dp un gd cn1 cs1 a1 ccd1 cl outer A₀ base h₁ L₁ m₁ nw₁ s₁ Q₁ E₁ B₁ F₁ X₁ N₁ T₁ hk₁ hd₁ sub₁ hr₁
                                                                  have N₂ := news_more N₁ (fun q hq => sub₁ q (List.mem_append_left cd hq))
                                                                  clear N₁ B F KX N T hret hk
                                                                  revert X₁; k_fill; intro X₁
                                                                  simp only [List.cons_append, List.nil_append] at N₂
                                                                  replace N₂ := news_add (news_add (news_add N₂ (mem_tail6 (sub₁ _ (List.mem_append_right _ m3)))) (mem_tail7 (sub₁ _ (List.mem_append_right _ m2)))) (mem_tail8 (sub₁ _ (List.mem_append_right _ m1)))
                                                                  refine wpAny_call ?_
                                                                  k_dflt (refine' kla_code ?k1 ?k2 ?k3 ?k4 ?k5 ?kA ?kF ?kK ?k6 ?k7 ?k8 ?k9 ?kB ?_ ?c2 ?c3 ?c4 ?c5; (case kA => exact rfl); (case kF => exact rfl); (case kK => exact hk₁); (case k1 => k_asm); (case k2 => k_asm); (case k3 => k_asm); (case k4 => k_asm); (case k5 => k_asm); (case k6 => k_mem); (case k7 => exact codeRec_news (by k_asm) (by k_mem) (by assumption) (by assumption)); (case k8 => ktr_room); (case k9 => exact rfl); (case c5 => decide); (case kB => exact locs rfl); (case c2 => exact rfl); (case c3 => exact rfl); (case c4 => exact rfl); k_whole; intro g' L' h' FG' F' N' B' X' T'; (try dsimp only); (try k_lift B'); (try k_fold))
                                                                  k_steps
                                                                  rename Fr h₁ L₁ _ m₁ => kF1
                                                                  rename News h₁ L₁ _ _ => kN1)
      exact hr₁ _ _ _ kF1 (news_sub kN1 fun q hq => by walk_at "mem tail")
    case q9 =>
      refine ⟨⟨_, _, _, _, by k_mem⟩, ?_⟩
      (
                                                                  intro dp un gd cn1 cs1 a1 ccd1 cl outer A₀ base h₁ L₁ m₁ nw₁ s₁ Q₁ E₁ B₁ F₁ X₁ N₁ T₁ hk₁ hd₁ sub₁ hr₁
                                                                  have N₂ := news_more N₁ (fun q hq => sub₁ q (List.mem_append_left cd hq))
                                                                  clear N₁ B F KX N T hret hk
                                                                  revert X₁; k_fill; intro X₁
                                                                  simp only [List.cons_append, List.nil_append] at N₂
                                                                  replace N₂ := news_add (news_add (news_add N₂ (mem_tail6 (sub₁ _ (List.mem_append_right _ m3)))) (mem_tail7 (sub₁ _ (List.mem_append_right _ m2)))) (mem_tail8 (sub₁ _ (List.mem_append_right _ m1)))
                                                                  refine wpAny_call ?_
                                                                  k_dflt (refine' kla_code ?k1 ?k2 ?k3 ?k4 ?k5 ?kA ?kF ?kK ?k6 ?k7 ?k8 ?k9 ?kB ?_ ?c2 ?c3 ?c4 ?c5; (case kA => exact rfl); (case kF => exact rfl); (case kK => exact hk₁); (case k1 => k_asm); (case k2 => k_asm); (case k3 => k_asm); (case k4 => k_asm); (case k5 => k_asm); (case k6 => k_mem); (case k7 => exact codeRec_news (by k_asm) (by k_mem) (by assumption) (by assumption)); (case k8 => ktr_room); (case k9 => exact rfl); (case c5 => decide); (case kB => exact locs rfl); (case c2 => exact rfl); (case c3 => exact rfl); (case c4 => exact rfl); k_whole; intro g' L' h' FG' F' N' B' X' T'; (try dsimp only); (try k_lift B'); (try k_fold))
                                                                  k_steps
                                                                  rename Fr h₁ L₁ _ m₁ => kF1
                                                                  rename News h₁ L₁ _ _ => kN1)
      rename _ ∧ _ => lX
      exact hr₁ _ _ _ _ _ kF1 (news_hd kN1 fun q hq => by walk_at "mem tail") (allLt_back lX.2.2.2.2.2.2.2.2.2)
end
end Mine
end

section -- LP
open PySem PySem.W PyProof.Rows
namespace Mine
theorem off_LP : True := by (w_top off; trivial)
def TurnEnd (h₀ : Heap) (L I : Addr) (own : List (Addr × Obj)) (Jn : (Str → Option Value) → List (Addr × Obj) → Prop) (s₁ : Shared) (Q : Flow → Shared → Prop) (f : Flow) (s₂ : Shared) : Prop :=
  match f with
  | .ret v => Q (.ret v) s₂
  | .brk => Q .next s₂
  | _ => ∃ h' tk m' news', s₂ = { s₁ with heap := h', toks := tk } ∧ Fr h₀ L h' m' ∧ News h₀ L h' (own ++ news') ∧ (∀ p ∈ news', p.1 ≠ I) ∧ Jn m' news'
section
variable {h₀ h' : Heap} {L I : Addr} {own news' : List (Addr × Obj)} {Jn : (Str → Option Value) → List (Addr × Obj) → Prop} {s₁ s₂ : Shared} {tk : Nat} {m' : Str → Option Value} {Q : Flow → Shared → Prop}
theorem TurnEnd.next (F : Fr h₀ L h' m') (N : News h₀ L h' (own ++ news')) (k : ∀ p ∈ news', p.1 ≠ I) (j : Jn m' news') : TurnEnd h₀ L I own Jn s₁ Q .next { s₁ with heap := h', toks := tk } := ⟨h', tk, m', news', rfl, F, N, k, j⟩
theorem TurnEnd.ret {v : Value} (h : Q (.ret v) s₂) : TurnEnd h₀ L I own Jn s₁ Q (.ret v) s₂ := h
theorem TurnEnd.brk (h : Q .next s₂) : TurnEnd h₀ L I own Jn s₁ Q .brk s₂ := h
theorem TurnEnd.toV {f : Flow} (h : TurnEnd h₀ L I own Jn s₁ Q f s₂) : LoopStepV h₀ L [I] own Jn s₁ (fun v s' => Q (.ret v) s') (fun s' => Q .next s') f s₂ := by
  have off : ∀ {l : List (Addr × Obj)}, (∀ p ∈ l, p.1 ≠ I) → ∀ p ∈ l, p.1 ∉ [I] := fun k p hp hm => k p hp (List.mem_singleton.mp hm)
  cases f with
  | ret v => exact h
  | brk => exact h
  | next => obtain ⟨h', tk, m', news', e, F, N, k, j⟩ := h; exact .next ⟨rfl, h', tk, m', news', e, F, N, off k, j⟩
  | cont => obtain ⟨h', tk, m', news', e, F, N, k, j⟩ := h; exact .cont ⟨rfl, h', tk, m', news', e, F, N, off k, j⟩
end
section
variable {prog : Program} {w : World} {A : Around} {E : Value → Shared → Prop} {s : Shared} {h₀ : Heap} {env : Env} {x : Str} {body : List Stmt} {Q : Flow → Shared → Prop} {m₀ : Str → Option Value} {news : List (Addr × Obj)}
theorem loop_list {ax : Addr} {its : Array Value} (J : Nat → (Str → Option Value) → List (Addr × Obj) → Prop) (hh : A.handled = none) (F : Fr h₀ env.locals s.heap m₀) (N : News h₀ env.locals s.heap news) (hl : s.heap.IsList ax its) (hLa : env.locals ≠ ax) (hj : J 0 m₀ news)
    (turn : ∀ I i v m₁ news₁ h tk own, its[i]? = some v → J i m₁ news₁ → (∀ p ∈ news₁, p.1 ≠ I) → (∀ p ∈ own, p.1 = I ∨ p.1 = ax) → (∃ o, (I, o) ∈ own) → Fr h₀ env.locals h (fun y => if y = x then some v else m₁ y) → News h₀ env.locals h (own ++ news₁) →
      wpAny (model prog w) A (execs body env) (TurnEnd h₀ env.locals I own (J (i + 1)) { s with heap := h, toks := tk } Q) E { s with heap := h, toks := tk })
    (done : ∀ m₁ news₁ h tk, J its.size m₁ news₁ → Fr h₀ env.locals h m₁ → News h₀ env.locals h news₁ → Q .next { s with heap := h, toks := tk }) :
    wpAny (model prog w) A (pyIter (.ref ax)) (fun it s₂ => LoopAtV prog w A h₀ env x body Q E it s₂) E s := by
  obtain ⟨ol, hol, _⟩ := id hl
  have hlt : ax < s.heap.objs.size := Heap.lt_size hol
  refine wpAny_pyIter_list hl ?_
  have W := Walks.list (prog := prog) (w := w) hh s.heap.objs.size ax (Nat.ne_of_lt hlt) its
  refine ⟨_, _, _, its.size, _, _, m₀, news, J, rfl, W, ?_, ?_, ?_, ⟨⟨_, Heap.get?_push_size _ rfl, rfl, rfl⟩, hl.at fun o e => Heap.get?_push_of_some _ e⟩, F.push _, (fun p hp => ⟨Heap.get?_push_of_some _ (N p hp).1, (N p hp).2⟩), hj, ?_, ?_⟩
  · intro hm
    rcases List.mem_cons.mp hm with e | hm
    · exact absurd F.ns.lt (e ▸ Nat.lt_irrefl _)
    · exact hLa (List.mem_singleton.mp hm)
  · intro b hb
    rw [List.mem_singleton.mp hb]
    exact next_is_new F
  · intro p hp hI
    exact absurd (Heap.lt_size (N p hp).1) ((List.mem_singleton.mp hI) ▸ Nat.lt_irrefl _)
  · rintro i v m₁ news₁ s₁ own ⟨hh', tk', rfl⟩ hin hP hJ hoff hown _ hall hst F₁ N₁
    have hIo : ∃ o, (s.heap.objs.size, o) ∈ own := by
      obtain ⟨o, e, _⟩ := hst.1
      exact ⟨o, hall _ List.mem_cons_self (next_is_new F) o e⟩
    refine wpAny_mono (turn s.heap.objs.size i v m₁ news₁ hh' tk' own hP hJ (fun p hp e => hoff p hp (List.mem_singleton.mpr e)) (fun p hp => ?_) hIo F₁ N₁) (fun f s₂ p => p.toV) fun _ _ e => e
    rcases List.mem_cons.mp (hown p hp) with h1 | h1
    · exact .inl h1
    · exact .inr (List.mem_singleton.mp h1)
  · rintro h' tk m' news' F' N' _ hJ
    exact done m' news' h' tk hJ F' N'
theorem loop_items {ax : Addr} {its : Array Value} (Pr : Nat → Prop) (hh : A.handled = none) (F : Fr h₀ env.locals s.heap m₀) (N : News h₀ env.locals s.heap news) (hl : s.heap.IsList ax its) (hLa : env.locals ≠ ax) (h0 : Pr 0)
    (turn : ∀ I i v h tk own, its[i]? = some v → Pr i → (∀ p ∈ news, p.1 ≠ I) → (∀ p ∈ own, p.1 = I ∨ p.1 = ax) → (∃ o, (I, o) ∈ own) → Fr h₀ env.locals h (fun y => if y = x then some v else m₀ y) → News h₀ env.locals h (own ++ news) →
      wpAny (model prog w) A (execs body env) (TurnEnd h₀ env.locals I own (fun m₁ nx => (∃ u, m₁ = fun z => if z = x then u else m₀ z) ∧ nx = news ∧ Pr (i + 1)) { s with heap := h, toks := tk } Q) E { s with heap := h, toks := tk })
    (done : ∀ u h tk, Pr its.size → Fr h₀ env.locals h (fun z => if z = x then u else m₀ z) → News h₀ env.locals h news → Q .next { s with heap := h, toks := tk }) :
    wpAny (model prog w) A (pyIter (.ref ax)) (fun it s₂ => LoopAtV prog w A h₀ env x body Q E it s₂) E s := by
  refine loop_list (fun i m₁ nx => (∃ u, m₁ = fun z => if z = x then u else m₀ z) ∧ nx = news ∧ Pr i) hh F N hl hLa ⟨⟨m₀ x, ?_⟩, rfl, h0⟩ ?_ ?_
  · funext z; split
    · rename_i e; rw [e]
    · rfl
  · rintro I i v m₁ news₁ h tk own hv ⟨⟨u, rfl⟩, rfl, hp⟩ h1 h2 h3 F1 N1
    refine turn I i v h tk own hv hp h1 h2 h3 ?_ N1
    have e : (fun y => if y = x then some v else if y = x then u else m₀ y) = fun y => if y = x then some v else m₀ y := by
      funext y; split <;> rfl
    rw [e] at F1
    exact F1
  · rintro m₁ news₁ h tk ⟨⟨u, rfl⟩, rfl, hp⟩ F1 N1
    exact done u h tk hp F1 N1
theorem loop_row {ax : Addr} {its : Array Value} {r0 y : Str} {t0 : Tok} (Pr : Nat → Str → Prop) (hh : A.handled = none) (F : Fr h₀ env.locals s.heap (fun z => if z = y then some (.str r0 t0) else m₀ z)) (N : News h₀ env.locals s.heap news) (hl : s.heap.IsList ax its) (hLa : env.locals ≠ ax) (h0 : Pr 0 r0)
    (turn : ∀ I i v r t u h tk own, its[i]? = some v → Pr i r → (∀ p ∈ news, p.1 ≠ I) → (∀ p ∈ own, p.1 = I ∨ p.1 = ax) → (∃ o, (I, o) ∈ own) → Fr h₀ env.locals h (fun z => if z = x then some v else if z = y then some (.str r t) else if z = x then u else m₀ z) → News h₀ env.locals h (own ++ news) →
      wpAny (model prog w) A (execs body env) (TurnEnd h₀ env.locals I own (fun m₁ nx => (∃ u r t, m₁ = (fun z => if z = y then some (.str r t) else if z = x then u else m₀ z) ∧ Pr (i + 1) r) ∧ nx = news) { s with heap := h, toks := tk } Q) E { s with heap := h, toks := tk })
    (done : ∀ r t u h tk, Pr its.size r → Fr h₀ env.locals h (fun z => if z = y then some (.str r t) else if z = x then u else m₀ z) → News h₀ env.locals h news → Q .next { s with heap := h, toks := tk }) :
    wpAny (model prog w) A (pyIter (.ref ax)) (fun it s₂ => LoopAtV prog w A h₀ env x body Q E it s₂) E s := by
  refine loop_list (fun i m₁ nx => (∃ u r t, m₁ = (fun z => if z = y then some (.str r t) else if z = x then u else m₀ z) ∧ Pr i r) ∧ nx = news) hh F N hl hLa ⟨⟨m₀ x, r0, t0, ?_, h0⟩, rfl⟩ ?_ ?_
  · funext z; split
    · rfl
    · split
      · rename_i e; rw [e]
      · rfl
  · rintro I i v m₁ news₁ h tk own hv ⟨⟨u, r, t, rfl, hp⟩, rfl⟩ h1 h2 h3 F1 N1
    exact turn I i v r t u h tk own hv hp h1 h2 h3 F1 N1
  · rintro m₁ news₁ h tk ⟨⟨u, r, t, rfl, hp⟩, rfl⟩ F1 N1
    exact done r t u h tk hp F1 N1
theorem loop_range {r : Addr} {t₀ u₀ v₀ : Tok} {n : Nat} (J : Nat → (Str → Option Value) → List (Addr × Obj) → Prop) (hh : A.handled = none) (F : Fr h₀ env.locals s.heap m₀) (N : News h₀ env.locals s.heap news)
    (hr : IsRange s.heap r 0 (n : Int) 1 t₀ u₀ v₀) (hn : n < 2 ^ 62) (hj : J 0 m₀ news)
    (turn : ∀ I i t m₁ news₁ h tk own, i < n → J i m₁ news₁ → (∀ p ∈ news, p.1 < I) → (∀ p ∈ news₁, p.1 ≠ I) → (∀ p ∈ own, p.1 = I) → (∃ o, (I, o) ∈ own) → Fr h₀ env.locals h (fun y => if y = x then some (.int (i : Int) t) else m₁ y) → News h₀ env.locals h (own ++ news₁) →
      wpAny (model prog w) A (execs body env) (TurnEnd h₀ env.locals I own (J (i + 1)) { s with heap := h, toks := tk } Q) E { s with heap := h, toks := tk })
    (done : ∀ m₁ news₁ h tk, J n m₁ news₁ → Fr h₀ env.locals h m₁ → News h₀ env.locals h news₁ → Q .next { s with heap := h, toks := tk }) :
    wpAny (model prog w) A (pyIter (.ref r)) (fun it s₂ => LoopAtV prog w A h₀ env x body Q E it s₂) E s := by
  refine wpAny_pyIter_range hr (small_one (by decide) (by decide) (by omega) (by omega)) ?_
  have W : Walks prog w A s.heap.objs.size [s.heap.objs.size] [s.heap.objs.size] n (fun i v => i < n ∧ ∃ t, v = .int (0 + i * 1) t)
      (fun i h => IsRangeIter h s.heap.objs.size (0 + (i : Nat) * 1) ((n : Int) - (i : Nat)) 1) := (Walks.range hh _ 0 1 n).bound
  refine ⟨_, _, _, n, _, _, m₀, news, J, rfl, W, ?_, ?_, ?_, ?_, F.push _, (fun p hp => ⟨Heap.get?_push_of_some _ (N p hp).1, (N p hp).2⟩), hj, ?_, ?_⟩
  · intro hm
    exact absurd F.ns.lt ((List.mem_singleton.mp hm) ▸ Nat.lt_irrefl _)
  · intro b hb
    rw [List.mem_singleton.mp hb]
    exact next_is_new F
  · intro p hp hI
    exact absurd (Heap.lt_size (N p hp).1) ((List.mem_singleton.mp hI) ▸ Nat.lt_irrefl _)
  · show IsRangeIter _ _ _ _ _
    rw [rangeSize_nat]
    simpa using Heap.get?_push_size _ rfl
  · rintro i v m₁ news₁ s₁ own ⟨hh', tk', rfl⟩ hin ⟨_, t, rfl⟩ hJ hoff hown _ hall hst F₁ N₁
    have hIo : ∃ o, (s.heap.objs.size, o) ∈ own := ⟨_, hall _ (List.mem_singleton.mpr rfl) (next_is_new F) _ hst⟩
    rw [show (0 + (i : Int) * 1) = (i : Int) by omega] at F₁
    exact wpAny_mono (turn s.heap.objs.size i t m₁ news₁ hh' tk' own hin hJ (fun p hp => Heap.lt_size (N p hp).1) (fun p hp e => hoff p hp (List.mem_singleton.mpr e)) (fun p hp => List.mem_singleton.mp (hown p hp)) hIo F₁ N₁) (fun f s₂ p => p.toV) fun _ _ e => e
  · rintro h' tk m' news' F' N' _ hJ
    exact done m' news' h' tk hJ F' N'
end
end Mine
end

section -- FD
open PySem PySem.W PyProof.Rows PyProof.Rows.LCg
set_option maxRecDepth 100000
namespace Mine
theorem off_FD : True := by (w_top off; trivial)
abbrev fndQual : Str := ((Str.ofString "_law_finder") ++ (Str.ofString ".<locals>."))
abbrev tab2 (c4 c5 : Addr) : Array Value := #[rawInt 91, rawInt 4, .ref c4, rawInt 96, rawInt 11, .ref c5]
def CodeQ (q : Str) (l : List (Addr × Obj)) (c : Addr) : Prop := ∃ oc vs t, (c, oc) ∈ l ∧ oc.data = .fields vs ∧ vs[1]? = some (.str q t)
theorem CodeQ.of {q : Str} {l : List (Addr × Obj)} {c : Addr} {oc : Obj} {vs : Array Value} {t : Tok} (h : (c, oc) ∈ l) (hd : oc.data = .fields vs) (hv : vs[1]? = some (.str q t)) : CodeQ q l c := ⟨oc, vs, t, h, hd, hv⟩
def Codes2 (l : List (Addr × Obj)) (c4 c5 : Addr) : Prop := CodeQ (fndQual ++ (Str.ofString "_law_search")) l c4 ∧ CodeQ (fndQual ++ (Str.ofString "<lambda>")) l c5
def Above2 (ext nw : List (Addr × Obj)) : Prop := ∃ b : Nat, 109 < b ∧ (∀ p ∈ nw, p.1 < b) ∧ ∀ p ∈ ext, b ≤ p.1
def ProgIn (l : List (Addr × Obj)) (f fs : Addr) : Prop := ∃ fo d dob, (f, fo) ∈ l ∧ fo.cls = .type "function" ∧ (∀ c, fo.data ≠ .cls c) ∧ fo.dict = some d ∧ (d, dob) ∈ l ∧ NsObj1 dob (fun y => if y = "search" then some (.ref fs) else none)
theorem ProgIn.mono {l l' : List (Addr × Obj)} {f fs : Addr} (x : ProgIn l f fs) (k : ∀ q ∈ l, q ∈ l') : ProgIn l' f fs := let ⟨fo, d, dob, h1, h2, h3, h4, h5, h6⟩ := x; ⟨fo, d, dob, k _ h1, h2, h3, h4, k _ h5, h6⟩
def firstFrom : List Value → Value
  | [] => .none
  | .none :: r => firstFrom r
  | v :: _ => v
theorem first_some : ∀ {l : List Value} {i : Nat} {f : Addr}, (∀ k, k < i → l[k]? = some .none) → l.toArray[i]? = some (.ref f) → firstFrom l = .ref f
  | [], i, f, _, h => by simp at h
  | v :: r, 0, f, _, h => by simp at h; subst h; rfl
  | v :: r, i + 1, f, hk, h => by
    have h0 := hk 0 (Nat.zero_lt_succ _)
    simp at h0
    subst h0
    show firstFrom r = _
    exact first_some (i := i) (fun k hk' => by have := hk (k + 1) (Nat.succ_lt_succ hk'); simpa using this) (by simpa using h)
theorem first_none : ∀ {l : List Value}, (∀ k, k < l.toArray.size → l[k]? = some .none) → firstFrom l = .none
  | [], _ => rfl
  | v :: r, hk => by
    have h0 := hk 0 (by simp)
    simp at h0
    subst h0
    show firstFrom r = _
    exact first_none fun k hk' => by have := hk (k + 1) (by simpa using hk'); simpa using this
theorem slice_drop0 {its : List Value} {pos : Nat} (h : pos = 0) : slicePick its.toArray (some 0) none none = (its.drop pos).toArray := by subst h; exact slicePick_from' its.toArray 0
theorem slice_drop (its : List Value) (pos : Nat) : slicePick its.toArray (some (pos : Int)) none none = (its.drop pos).toArray := slicePick_from' its.toArray pos
theorem LamInt.fn {w : World} {p : Program} {loose : List Str} {mean : ExcName → Option Value} {mg mb : Str → Option Value} {l : List (Addr × Obj)} {f : Addr} {n : Int} (x : LamInt w p loose mean mg mb l f n) : FnIn l f := x.1
theorem LamInt.use {w : World} {p : Program} {loose : List Str} {mean : ExcName → Option Value} {mg mb : Str → Option Value} {l : List (Addr × Obj)} {f : Addr} {n : Int} (x : LamInt w p loose mean mg mb l f n)
    {dp un : Nat} {gd : Option (List Code)} {cn : Str} {cs : Scope} {a : Addr} {ccd : Value} {cl : List (Str × Addr)} {outer : List Env} {A₀ : Around} {base h₀ : Heap} {L : Addr} {m : Str → Option Value} {news : List (Addr × Obj)} {s : Shared} {Q E : Value → Shared → Prop}
    (B : Below A₀ base outer h₀) (F : Fr h₀ L s.heap m) (X : (hd.heap_39 w.params).In h₀) (N : News h₀ L s.heap news) (T : Top p loose mean mg mb h₀) (hk : cs.kind = .function) (hd : dp + 4 < recursionLimit) (sub : ∀ q ∈ l, q ∈ news)
    (hr : ∀ t h' tk', Fr h₀ L h' m → News h₀ L h' news → Q (.int n t) { s with heap := h', toks := tk' }) :
    wpAny (model PySem.Challenge.rw_il0002_01.row.prog w) (ktrTop dp un gd cn cs L a ccd cl outer) (call (.ref f) []) Q E s :=
  x.2 dp un gd cn cs a ccd cl outer A₀ base h₀ L m news s Q E B F X N T hk hd sub hr
theorem news_swap {h₀ h : Heap} {L : Addr} {l r : List (Addr × Obj)} (N : News h₀ L h (l ++ r)) : News h₀ L h (r ++ l) := fun q hq => N q (List.mem_append.mpr (List.mem_append.mp hq).symm)
theorem none_next {l : List Value} {i : Nat} (h : ∀ k, k < i → l[k]? = some .none) (hv : l.toArray[i]? = some .none) : ∀ k, k < i + 1 → l[k]? = some .none := fun k hk => by
  rcases Nat.lt_succ_iff_lt_or_eq.mp hk with h1 | rfl
  · exact h k h1
  · simpa using hv
def HitsOk (w : World) (p : Program) (loose : List Str) (mean : ExcName → Option Value) (mg mb : Str → Option Value) (l : List (Addr × Obj)) (its : List Value) : Prop :=
  ∀ (i : Nat) v, its[i]? = some v → v = .none ∨ ∃ f, v = .ref f ∧ HitIn w p loose mean mg mb l f i
/-- what calling the nested search gives, wherever the objects of l are on the ledger -/
def SearchLaw (w : World) (p : Program) (loose : List Str) (mean : ExcName → Option Value) (mg mb : Str → Option Value) (l : List (Addr × Obj)) (f : Addr) (y : Str) (its : List Value) : Prop :=
  FnIn l f ∧ ∀ (dp un : Nat) (gd : Option (List Code)) (cn : Str) (cs : Scope) (a : Addr) (ccd : Value) (cl : List (Str × Addr)) (outer : List Env) (A₀ : Around) (base h₀ : Heap) (L : Addr) (m : Str → Option Value) (news : List (Addr × Obj)) (s : Shared) (Q E : Value → Shared → Prop) (pos : Nat) (t u : Tok) (args : List Value),
    Below A₀ base outer h₀ → Fr h₀ L s.heap m → (hd.heap_39 w.params).In h₀ → News h₀ L s.heap news → Top p loose mean mg mb h₀ → cs.kind = .function → dp + 10 < recursionLimit → (∀ q ∈ l, q ∈ news) →
    (args = [.str y t, .int (pos : Int) u] ∨ args = [.str y t] ∧ pos = 0) →
    (∀ h' tk', Fr h₀ L h' m → News h₀ L h' news → Q (firstFrom (its.drop pos)) { s with heap := h', toks := tk' }) →
    wpAny (model PySem.Challenge.rw_il0002_01.row.prog w) (ktrTop dp un gd cn cs L a ccd cl outer) (call (.ref f) args) Q E s
section
variable {w : World} {p : Program} {loose : List Str} {mean : ExcName → Option Value} {mg mb : Str → Option Value}
  {cn : Str} {cs : Scope} {a : Addr} {ccd : Value} {h₀ : Heap} {L : Addr} {m : Str → Option Value} {nw : List (Addr × Obj)} {s : Shared} {Q E : Value → Shared → Prop}
local macro_rules | `(tactic| k_room) => `(tactic| ktr_room)
local macro_rules | `(tactic| walk_at "call type:type") => `(tactic| (k_here; (with_reducible show wpAny _ _ (call (Value.type "type") [Value.bytes _ _]) _ _ _); refine call_type_of (typeIs_bytes _ _ _) (by decide +kernel) ?_))
local macro_rules | `(tactic| walk_at "call type:type") => `(tactic| (k_here; (with_reducible show wpAny _ _ (call (Value.type "type") [Value.str _ _]) _ _ _); refine call_type_of (typeIs_str _ _ _) (by decide +kernel) ?_))
local macro_rules | `(tactic| walk_at "call ref") => `(tactic| (k_here; (with_reducible show wpAny _ _ (call (Value.ref 78) [Value.int _ _]) _ _ _); k_dflt (refine' hex_spec ?B ?F ?K ?N ?T ?k ?d _ _ ?_; (case B => k_asm); (case F => k_asm); (case K => k_asm); (case N => k_asm); (case T => k_asm); (case k => first | exact rfl | assumption); (case d => ktr_room); intro t9 h9 tk9 F9 N9; (try dsimp only); (try k_sweep))))
local macro_rules | `(tactic| walk_at "subscriptTail") => `(tactic| (k_here; (with_reducible show wpAny _ _ (subscriptTail _ _ (Value.bytes _ _) (Value.int _ _)) _ _ _); (refine bytes_item ?z ?a ?b ?_; (case z => omega); (case a => omega); (case b => omega)); intro t9 k9))
local macro_rules | `(tactic| k_all) => `(tactic| first | exact allNe_of_lt (by assumption) | exact allNe_of_lt (allLt_back (by assumption)))
local macro_rules | `(tactic| walk_at "call builtin:list.append") => `(tactic| (k_here; (with_reducible show wpAny _ _ (call (Value.builtin _) [Value.ref _, _]) _ _ _); k_dflt (refine' append_K ?k1 ?k2 ?k3 ?_ ?z; (case k1 => k_asm); (case k2 => k_asm); (case k3 => k_upd); (case z => (rw [PySem.sizeLine_eq]; omega)); k_whole); intro h' F' N'; (try k_sweep)))
local macro_rules | `(tactic| ksw_same) => `(tactic| (intro z h2 h3; (simp only [List.forall_mem_cons, List.not_mem_nil, false_implies, implies_true, and_true, ne_eq] at h2); (have h4 := h3); (simp only [List.contains_cons, List.contains_nil, Bool.or_false, Bool.or_eq_false_iff, beq_eq_false_iff_ne, ne_eq] at h4); (simp [kstB, h2, h3, h4]; done)))
local macro_rules | `(tactic| walk_at "call ref") => `(tactic| (k_here; (with_reducible show wpAny _ _ (call (Value.ref 85) [Value.bytes _ _]) _ _ _); k_dflt (refine' a2b_spec ?B ?F ?K ?N ?T ?k ?d _ _ ?z ?e ?kn ?_; (case B => k_asm); (case F => k_asm); (case K => k_asm); (case N => k_asm); (case T => k_asm); (case k => first | exact rfl | assumption); (case d => ktr_room); (case z => omega); (case e => assumption); (case kn => exact known_of (by assumption)); intro t9 h9 tk9 F9 N9; (try dsimp only); (try k_sweep))))
local macro_rules | `(tactic| walk_at "getMethod str") => `(tactic| (k_here; with_reducible refine getMethod_encode ?_))
local macro_rules | `(tactic| walk_at "getMethod bytes") => `(tactic| (k_here; with_reducible refine getMethod_upper ?_))
local macro_rules | `(tactic| walk_at "call builtin:str.encode") => `(tactic| (k_here; (refine encode_ascii ?a ?b ?_; (case a => assumption); (case b => (rw [PySem.sizeLine_eq]; omega))); intro t9 k9))
local macro_rules | `(tactic| walk_at "call builtin:bytes.upper") => `(tactic| (k_here; (refine bytes_upper ?b ?_; (case b => (rw [PySem.sizeLine_eq]; omega))); intro t9 k9))
local macro_rules | `(tactic| walk_at "getMethod ref") => `(tactic| (k_here; (with_reducible show wpAny _ _ (getMethod (Value.ref 43) _ _) _ _ _); k_dflt (refine' pat_method ?F ?X ?l ?_; (case F => k_asm); (case X => k_asm); (case l => k_is))))
local macro_rules | `(tactic| walk_at "call builtin:re.Pattern.search") => `(tactic| (k_here; k_dflt (first
  | (refine' pat_no ?F ?X ?l ?c ?i ?z ?f ?_; (case f => assumption); (case F => k_asm); (case X => k_asm); (case l => k_is); (case c => k_is); (case i => kernel_rfl); (case z => omega))
  | (refine' pat_yes ?F ?N ?X ?l ?c ?i ?z ?f ?_; (case f => assumption); (case F => k_asm); (case N => k_asm); (case X => k_asm); (case l => k_is); (case c => k_is); (case i => kernel_rfl); (case z => omega); intro M9 h9 F9 N9 T9; (try k_sweep)))))
local macro_rules | `(tactic| walk_at "truthy ref") => `(tactic| (k_here; refine truthy_typed (by assumption) match_no_bool match_no_len ?_))
local macro_rules | `(tactic| walk_at "truthOfDropped ref") => `(tactic| (k_here; refine truthOfDropped_typed (by assumption) match_no_bool match_no_len ?_))
local macro_rules | `(tactic| walk_at "call type:str") => `(tactic| (k_here; (with_reducible show wpAny _ _ (call (Value.type "str") [Value.ref _]) _ _ _); (with_reducible rename Got _ _ _ _ _ => gX); k_dflt (refine' str_of_own ?X ?u (excOwn_of ?N gX) ?f ?s ?_; (case X => k_in); (case u => exact Nat.le_of_ble_eq_true rfl); (case N => k_asm); (case f => k_is); (case s => k_is))))
local macro_rules | `(tactic| walk_at "mem tail") => `(tactic| first | assumption | (refine List.Mem.tail _ ?_; walk_at "mem tail"))
local macro_rules | `(tactic| walk_at "getMethod ref") => `(tactic| (k_here; (with_reducible show wpAny _ _ (getMethod (Value.ref _) _ _) _ _ _); k_dflt (refine' fn_get ?N ?m ?md ?c ?n ?d ?s ?B ?v ?hh ?_; (case c => assumption); (case d => assumption); (case s => assumption); (case n => assumption); (case N => k_asm); (case m => k_mem); (case md => k_mem); (case B => first | exact no_span | exact no_start | exact no_end | exact no_search); (case v => exact rfl); (case hh => exact rfl))))
local macro_rules | `(tactic| walk_at "callWith ref") => `(tactic| (k_here; (dsimp only); k_dflt (refine' callWith_F0 (FnIn.at (LamInt.fn ?hL) ?N ?sub) ?_; (case hL => assumption); (case N => k_asm); (case sub => (intro q hq; (have hq2 := (by assumption : ∀ q ∈ _, q ∈ _) q hq); walk_at "mem tail")); (try dsimp only [List.nil_append, List.append_nil]))))
local macro_rules | `(tactic| walk_at "call ref") => `(tactic| (k_here; (with_reducible show wpAny _ _ (call (Value.ref _) []) _ _ _); k_dflt (refine' LamInt.use ?hL ?B ?F ?X ?N ?T ?k ?d ?sub ?_; (case hL => assumption); (case B => k_asm); (case F => k_asm); (case X => k_asm); (case N => k_asm); (case T => k_asm); (case k => first | exact rfl | assumption); (case d => ktr_room); (case sub => (intro q hq; (have hq2 := (by assumption : ∀ q ∈ _, q ∈ _) q hq); walk_at "mem tail")); intro t9 h9 k9 F9 N9; (try dsimp only); (try k_sweep))))
local macro_rules | `(tactic| walk_at "exec For Name Subscript cons nil") => `(tactic| refine Halt.mk ?_)
local macro_rules | `(tactic| walk_at "pyIter ref") => `(tactic| refine Halt.mk ?_)
local macro_rules | `(tactic| k_all) => `(tactic| first | assumption | (refine allNe_of_le (b := ?bb) ?hh ?bd; (case hh => assumption); (case bd => omega)))
local macro_rules | `(tactic| walk_at "setAttr ref") => `(tactic| (k_here; k_dflt (
  (refine' fn_set0 ?F ?N ?U ?hc ?c ?hd ?B ?_; (case F => k_asm); (case N => k_asm); (case U => k_updF); (case hc => exact rfl); (case hd => exact rfl); (case c => (intro _ e; cases e)); (case B => first | exact no_span | exact no_start | exact no_end | exact no_search); intro h9 d9 b9 t9 F9 N9 n9 l9; (try dsimp only at N9); (try k_lt l9)))))
set_option maxHeartbeats 8000000 in
theorem fnd_spec0 (B : Below callerA h₀ [] h₀) (F : Fr h₀ L s.heap m) (KX : (hd.heap_39 w.params).In h₀) (N : News h₀ L s.heap ((109, tabObj #[]) :: nw)) (T : Top p loose mean mg mb h₀) (hk : cs.kind = .function)
  (CH : CodeHd h₀ 113 109) (hn : ∀ p ∈ nw, p.1 ≠ 109) (D : Addr) (its : List Value) (kk : Nat) (y : Str) (t : Tok) (hD : (D, ({ cls := .type "list", data := .seq its.toArray kk } : Obj)) ∈ nw) (hI : HitsOk w p loose mean mg mb nw its) (hz : its.length ≤ 1000) (hy : y.cps.size ≤ 16777216)
  (hret : ∀ (f : Addr) (h' : Heap) (tk' : Nat) (ext : List (Addr × Obj)) (c4 c5 fs : Addr), Fr h₀ L h' m → News h₀ L h' ((109, tabObj (tab2 c4 c5)) :: (ext ++ nw)) → Codes2 ext c4 c5 → ProgIn ext f fs → SearchLaw w p loose mean mg mb (ext ++ nw) fs y its → Above2 ext nw → Q (.ref f) { s with heap := h', toks := tk' }) :
  wpAny (model PySem.Challenge.rw_il0002_01.row.prog w) (callerA.deeper (envOf cn cs L a ccd)) (call (.ref 114) [.ref D, .str y t]) Q E s := by
  revert KX; k_fill; intro KX
  refine wpAny_call ?_
  k_dflt (refine' code_defC ?k1 ?k2 ?k3 ?k4 ?k5 ?kA ?kF ?kK ?k6 ?k7 ?k8 ?k9 ?kB ?kD ?_ ?c2 ?c3 ?c4; (case kA => exact rfl); (case kF => exact rfl); (case kK => exact hk); (case k1 => k_asm); (case k2 => k_asm); (case k3 => k_asm); (case k4 => k_asm); (case k5 => k_asm); (case k6 => k_is); (case k7 => k_is); (case k8 => k_room); (case k9 => exact BindsTo.of_eq rfl); (case kB => exact rfl); (case kD => decide +kernel); (case c2 => exact rfl); (case c3 => exact rfl); (case c4 => exact rfl); k_whole; intro g' L' h' tk' cells' FG' F' N' Y' B' X' T' l1; (try k_lt l1); k_cells Y'; (try simp only [List.cons_append, List.nil_append] at N'); (try dsimp only); (try k_lift B'); (try k_fold))
  obtain ⟨hb, hbl⟩ := l1
  have hnw : ∀ p ∈ nw, p.1 < L' := allLt_back hbl
  k_steps
  rename Fr h₀ L _ m => kF
  rename News h₀ L _ _ => kN
  refine' hret _ _ _ [_, _, _, _, _, _, _, _] _ _ ?fs kF (news_rot (l := [_, _, _, _, _, _, _, _]) kN) ?codes ?prg ?law ?above
  case codes =>
    refine' ⟨CodeQ.of ?m0 ?a0 ?b0, CodeQ.of ?m1 ?a1 ?b1⟩
    case m0 => k_mem
    case m1 => k_mem
    case a0 => assumption
    case a1 => assumption
    case b0 => assumption
    case b1 => assumption
  case prg =>
    refine' ⟨_, _, _, ?q1, ?q2, ?q3, ?q4, ?q5, ?q6⟩
    case q1 => k_mem
    case q2 => rfl
    case q4 => rfl
    case q3 => intro c e; cases e
    case q5 => k_mem
    case q6 => assumption
  case above =>
    refine ⟨L' + 1, Nat.lt_succ_of_lt hb, fun q hq => Nat.lt_succ_of_lt (hnw q hq), ?_⟩
    refine List.forall_mem_cons.mpr ⟨?_, List.forall_mem_cons.mpr ⟨?_, List.forall_mem_cons.mpr ⟨?_, List.forall_mem_cons.mpr ⟨?_, List.forall_mem_cons.mpr ⟨?_, List.forall_mem_cons.mpr ⟨?_, List.forall_mem_cons.mpr ⟨?_, List.forall_mem_cons.mpr ⟨?_, List.forall_mem_nil _⟩⟩⟩⟩⟩⟩⟩⟩
    all_goals (refine leN ?_; dsimp only; omega)
  case law =>
    refine ⟨⟨_, _, _, _, by k_mem⟩, ?_⟩
    intro dp un gd cn1 cs1 a1 ccd1 cl outer A₀ base h₁ L₁ m₁ nw₁ s₁ Q₁ E₁ pos₁ t₁ u₁ args₁ B₁ F₁ X₁ N₁ T₁ hk₁ hd₁ sub₁ ha₁ hr₁
    have N₂ := news_more N₁ (fun q hq => sub₁ q (List.mem_append_left nw hq))
    replace N₂ := news_add N₂ (List.mem_append_right _ (sub₁ _ (List.mem_append_right _ hD)))
    clear N₁ B F KX N T hret hk
    revert X₁; k_fill; intro X₁
    simp only [List.cons_append, List.nil_append] at N₂
    rcases ha₁ with rfl | ⟨rfl, hp0⟩
    ·
      refine wpAny_call ?_
      k_dflt (refine' kdv_code ?k1 ?k2 ?k3 ?k4 ?k5 ?kA ?kF ?kK ?k6 ?k7 ?k8 ?k9 ?kB ?_ ?c2 ?c3 ?c4 ?c5; (case kA => exact rfl); (case kF => exact rfl); (case kK => exact hk₁); (case k1 => k_asm); (case k2 => k_asm); (case k3 => k_asm); (case k4 => k_asm); (case k5 => k_asm); (case k6 => k_mem); (case k7 => exact codeRec_news (by k_asm) (by k_mem) (by assumption) (by assumption)); (case k8 => ktr_room); (case k9 => kdv_bind); (case c5 => decide); (case kB => exact locs rfl); (case c2 => exact rfl); (case c3 => exact rfl); (case c4 => exact rfl); k_whole; intro g' L' h' FG' F' N' B' X' T'; (try dsimp only); (try k_lift B'); (try k_fold))
      k_steps
      with_reducible refine Halt.out ?_
      k_dflt (refine' For_invV g' ?x1 ?x2 ?iter ?hs ?hE)
      case x1 => rfl
      case x2 => rfl
      case hs => intro _; rfl
      case hE => passes_own
      case iter =>
        k_steps
        with_reducible refine Halt.out ?_
        rename Fr g' L' _ _ => F4
        rename News g' L' _ _ => N4
        rw [slice_drop] at N4
        k_dflt (refine' loop_items (fun i => ∀ k, k < i → (its.drop pos₁)[k]? = some .none) rfl F4 N4 ⟨_, (N4 _ (.head _)).1, rfl, _, rfl⟩ ?hLa (fun k hk => absurd hk (Nat.not_lt_zero _)) ?turn ?done)
        case hLa => exact Ne.symm (N4 _ (.head _)).2.1
        case turn =>
          intro I i v h6 tk6 own hv hpr hI6 hown _ F6 N6
          clear F4 N4 F' N'
          have hv' : its[pos₁ + i]? = some v := by simpa [List.getElem?_drop] using hv
          rcases hI _ _ hv' with rfl | ⟨f, rfl, hin⟩
          · k_steps
            exact TurnEnd.next F6 N6 hI6 ⟨⟨_, rfl⟩, rfl, none_next hpr hv⟩
          · obtain ⟨fo, d, dob, f1, f2, f3, hfo, hcls, hncl, hdict, hdm, hns, hend, hstart, hspan⟩ := hin
            have hsubN : ∀ q ∈ nw, q ∈ nw₁ ++ own := fun q hq => List.mem_append_left own (sub₁ q (List.mem_append_right _ hq))
            have N7 := news_swap N6
            simp only [List.cons_append] at N7
            have m1 := hsubN _ hfo
            have m2 := hsubN _ hdm
            replace N7 := news_add (x := (d, dob)) N7 (by walk_at "mem tail")
            replace N7 := news_add (x := (f, fo)) N7 (by walk_at "mem tail")
            clear N6
            k_steps
            · dsimp only
              refine TurnEnd.ret ?_
              dsimp only
              k_steps
              rename Fr h₁ L₁ _ m₁ => kF1
              rename News h₁ L₁ _ _ => kN1
              rw [first_some hpr hv] at hr₁
              exact hr₁ _ _ kF1 (news_sub kN1 fun q hq => by (have hq2 := List.mem_append_left own hq); walk_at "mem tail")
            · exfalso
              rename (_ == _) = false => hbad
              rw [beq_self_eq_true] at hbad
              cases hbad
        case done =>
          intro u6 h6 tk6 hpr F6 N6
          clear F4 N4 F' N'
          k_steps
          rename Fr h₁ L₁ _ m₁ => kF1
          rename News h₁ L₁ _ _ => kN1
          rw [first_none hpr] at hr₁
          exact hr₁ _ _ kF1 (news_sub kN1 fun q hq => by walk_at "mem tail")
    ·
      refine wpAny_call ?_
      k_dflt (refine' kdv_code ?k1 ?k2 ?k3 ?k4 ?k5 ?kA ?kF ?kK ?k6 ?k7 ?k8 ?k9 ?kB ?_ ?c2 ?c3 ?c4 ?c5; (case kA => exact rfl); (case kF => exact rfl); (case kK => exact hk₁); (case k1 => k_asm); (case k2 => k_asm); (case k3 => k_asm); (case k4 => k_asm); (case k5 => k_asm); (case k6 => k_mem); (case k7 => exact codeRec_news (by k_asm) (by k_mem) (by assumption) (by assumption)); (case k8 => ktr_room); (case k9 => kdv_bind); (case c5 => decide); (case kB => exact locs rfl); (case c2 => exact rfl); (case c3 => exact rfl); (case c4 => exact rfl); k_whole; intro g' L' h' FG' F' N' B' X' T'; (try dsimp only); (try k_lift B'); (try k_fold))
      k_steps
      with_reducible refine Halt.out ?_
      k_dflt (refine' For_invV g' ?x1 ?x2 ?iter ?hs ?hE)
      case x1 => rfl
      case x2 => rfl
      case hs => intro _; rfl
      case hE => passes_own
      case iter =>
        k_steps
        with_reducible refine Halt.out ?_
        rename Fr g' L' _ _ => F4
        rename News g' L' _ _ => N4
        rw [slice_drop0 hp0] at N4
        k_dflt (refine' loop_items (fun i => ∀ k, k < i → (its.drop pos₁)[k]? = some .none) rfl F4 N4 ⟨_, (N4 _ (.head _)).1, rfl, _, rfl⟩ ?hLa (fun k hk => absurd hk (Nat.not_lt_zero _)) ?turn ?done)
        case hLa => exact Ne.symm (N4 _ (.head _)).2.1
        case turn =>
          intro I i v h6 tk6 own hv hpr hI6 hown _ F6 N6
          clear F4 N4 F' N'
          have hv' : its[pos₁ + i]? = some v := by simpa [List.getElem?_drop] using hv
          rcases hI _ _ hv' with rfl | ⟨f, rfl, hin⟩
          · k_steps
            exact TurnEnd.next F6 N6 hI6 ⟨⟨_, rfl⟩, rfl, none_next hpr hv⟩
          · obtain ⟨fo, d, dob, f1, f2, f3, hfo, hcls, hncl, hdict, hdm, hns, hend, hstart, hspan⟩ := hin
            have hsubN : ∀ q ∈ nw, q ∈ nw₁ ++ own := fun q hq => List.mem_append_left own (sub₁ q (List.mem_append_right _ hq))
            have N7 := news_swap N6
            simp only [List.cons_append] at N7
            have m1 := hsubN _ hfo
            have m2 := hsubN _ hdm
            replace N7 := news_add (x := (d, dob)) N7 (by walk_at "mem tail")
            replace N7 := news_add (x := (f, fo)) N7 (by walk_at "mem tail")
            clear N6
            k_steps
            · dsimp only
              refine TurnEnd.ret ?_
              dsimp only
              k_steps
              rename Fr h₁ L₁ _ m₁ => kF1
              rename News h₁ L₁ _ _ => kN1
              rw [first_some hpr hv] at hr₁
              exact hr₁ _ _ kF1 (news_sub kN1 fun q hq => by (have hq2 := List.mem_append_left own hq); walk_at "mem tail")
            · exfalso
              rename (_ == _) = false => hbad
              rw [beq_self_eq_true] at hbad
              cases hbad
        case done =>
          intro u6 h6 tk6 hpr F6 N6
          clear F4 N4 F' N'
          k_steps
          rename Fr h₁ L₁ _ m₁ => kF1
          rename News h₁ L₁ _ _ => kN1
          rw [first_none hpr] at hr₁
          exact hr₁ _ _ kF1 (news_sub kN1 fun q hq => by walk_at "mem tail")
set_option maxHeartbeats 8000000 in
theorem fnd_spec1 {c4 c5 : Addr} (B : Below callerA h₀ [] h₀) (F : Fr h₀ L s.heap m) (KX : (hd.heap_39 w.params).In h₀) (N : News h₀ L s.heap ((109, tabObj (tab2 c4 c5)) :: nw)) (T : Top p loose mean mg mb h₀) (hk : cs.kind = .function)
  (CH : CodeHd h₀ 113 109) (hn : ∀ p ∈ nw, p.1 ≠ 109) (hC : Codes2 nw c4 c5) (D : Addr) (its : List Value) (kk : Nat) (y : Str) (t : Tok) (hD : (D, ({ cls := .type "list", data := .seq its.toArray kk } : Obj)) ∈ nw) (hI : HitsOk w p loose mean mg mb nw its) (hz : its.length ≤ 1000) (hy : y.cps.size ≤ 16777216)
  (hret : ∀ (f : Addr) (h' : Heap) (tk' : Nat) (ext : List (Addr × Obj)) (fs : Addr), Fr h₀ L h' m → News h₀ L h' ((109, tabObj (tab2 c4 c5)) :: (ext ++ nw)) → ProgIn ext f fs → SearchLaw w p loose mean mg mb (ext ++ nw) fs y its → Above2 ext nw → Q (.ref f) { s with heap := h', toks := tk' }) :
  wpAny (model PySem.Challenge.rw_il0002_01.row.prog w) (callerA.deeper (envOf cn cs L a ccd)) (call (.ref 114) [.ref D, .str y t]) Q E s := by
  revert KX; k_fill; intro KX
  refine wpAny_call ?_
  k_dflt (refine' code_defC ?k1 ?k2 ?k3 ?k4 ?k5 ?kA ?kF ?kK ?k6 ?k7 ?k8 ?k9 ?kB ?kD ?_ ?c2 ?c3 ?c4; (case kA => exact rfl); (case kF => exact rfl); (case kK => exact hk); (case k1 => k_asm); (case k2 => k_asm); (case k3 => k_asm); (case k4 => k_asm); (case k5 => k_asm); (case k6 => k_is); (case k7 => k_is); (case k8 => k_room); (case k9 => exact BindsTo.of_eq rfl); (case kB => exact rfl); (case kD => decide +kernel); (case c2 => exact rfl); (case c3 => exact rfl); (case c4 => exact rfl); k_whole; intro g' L' h' tk' cells' FG' F' N' Y' B' X' T' l1; (try k_lt l1); k_cells Y'; (try simp only [List.cons_append, List.nil_append] at N'); (try dsimp only); (try k_lift B'); (try k_fold))
  obtain ⟨hb, hbl⟩ := l1
  have hnw : ∀ p ∈ nw, p.1 < L' := allLt_back hbl
  k_steps
  rename Fr h₀ L _ m => kF
  rename News h₀ L _ _ => kN
  refine' hret _ _ _ [_, _, _, _, _, _] ?fs kF (news_rot (l := [_, _, _, _, _, _]) kN) ?prg ?law ?above
  case prg =>
    refine' ⟨_, _, _, ?q1, ?q2, ?q3, ?q4, ?q5, ?q6⟩
    case q1 => k_mem
    case q2 => rfl
    case q4 => rfl
    case q3 => intro c e; cases e
    case q5 => k_mem
    case q6 => assumption
  case above =>
    refine ⟨L' + 1, Nat.lt_succ_of_lt hb, fun q hq => Nat.lt_succ_of_lt (hnw q hq), ?_⟩
    refine List.forall_mem_cons.mpr ⟨?_, List.forall_mem_cons.mpr ⟨?_, List.forall_mem_cons.mpr ⟨?_, List.forall_mem_cons.mpr ⟨?_, List.forall_mem_cons.mpr ⟨?_, List.forall_mem_cons.mpr ⟨?_, List.forall_mem_nil _⟩⟩⟩⟩⟩⟩
    all_goals (refine leN ?_; dsimp only; omega)
  case law =>
    refine ⟨⟨_, _, _, _, by k_mem⟩, ?_⟩
    intro dp un gd cn1 cs1 a1 ccd1 cl outer A₀ base h₁ L₁ m₁ nw₁ s₁ Q₁ E₁ pos₁ t₁ u₁ args₁ B₁ F₁ X₁ N₁ T₁ hk₁ hd₁ sub₁ ha₁ hr₁
    have N₂ := news_more N₁ (fun q hq => sub₁ q (List.mem_append_left nw hq))
    obtain ⟨⟨o4, v4, u4, m4, a4, b4⟩, _⟩ := hC
    replace N₂ := news_add N₂ (List.mem_append_right _ (sub₁ _ (List.mem_append_right _ m4)))
    replace N₂ := news_add N₂ (.tail _ (List.mem_append_right _ (sub₁ _ (List.mem_append_right _ hD))))
    clear N₁ B F KX N T hret hk
    revert X₁; k_fill; intro X₁
    simp only [List.cons_append, List.nil_append] at N₂
    rcases ha₁ with rfl | ⟨rfl, hp0⟩
    ·
      refine wpAny_call ?_
      k_dflt (refine' kdv_code ?k1 ?k2 ?k3 ?k4 ?k5 ?kA ?kF ?kK ?k6 ?k7 ?k8 ?k9 ?kB ?_ ?c2 ?c3 ?c4 ?c5; (case kA => exact rfl); (case kF => exact rfl); (case kK => exact hk₁); (case k1 => k_asm); (case k2 => k_asm); (case k3 => k_asm); (case k4 => k_asm); (case k5 => k_asm); (case k6 => k_mem); (case k7 => exact codeRec_news (by k_asm) (by k_mem) (by assumption) (by assumption)); (case k8 => ktr_room); (case k9 => kdv_bind); (case c5 => decide); (case kB => exact locs rfl); (case c2 => exact rfl); (case c3 => exact rfl); (case c4 => exact rfl); k_whole; intro g' L' h' FG' F' N' B' X' T'; (try dsimp only); (try k_lift B'); (try k_fold))
      k_steps
      with_reducible refine Halt.out ?_
      k_dflt (refine' For_invV g' ?x1 ?x2 ?iter ?hs ?hE)
      case x1 => rfl
      case x2 => rfl
      case hs => intro _; rfl
      case hE => passes_own
      case iter =>
        k_steps
        with_reducible refine Halt.out ?_
        rename Fr g' L' _ _ => F4
        rename News g' L' _ _ => N4
        rw [slice_drop] at N4
        k_dflt (refine' loop_items (fun i => ∀ k, k < i → (its.drop pos₁)[k]? = some .none) rfl F4 N4 ⟨_, (N4 _ (.head _)).1, rfl, _, rfl⟩ ?hLa (fun k hk => absurd hk (Nat.not_lt_zero _)) ?turn ?done)
        case hLa => exact Ne.symm (N4 _ (.head _)).2.1
        case turn =>
          intro I i v h6 tk6 own hv hpr hI6 hown _ F6 N6
          clear F4 N4 F' N'
          have hv' : its[pos₁ + i]? = some v := by simpa [List.getElem?_drop] using hv
          rcases hI _ _ hv' with rfl | ⟨f, rfl, hin⟩
          · k_steps
            exact TurnEnd.next F6 N6 hI6 ⟨⟨_, rfl⟩, rfl, none_next hpr hv⟩
          · obtain ⟨fo, d, dob, f1, f2, f3, hfo, hcls, hncl, hdict, hdm, hns, hend, hstart, hspan⟩ := hin
            have hsubN : ∀ q ∈ nw, q ∈ nw₁ ++ own := fun q hq => List.mem_append_left own (sub₁ q (List.mem_append_right _ hq))
            have N7 := news_swap N6
            simp only [List.cons_append] at N7
            have m1 := hsubN _ hfo
            have m2 := hsubN _ hdm
            replace N7 := news_add (x := (d, dob)) N7 (by walk_at "mem tail")
            replace N7 := news_add (x := (f, fo)) N7 (by walk_at "mem tail")
            clear N6
            k_steps
            · dsimp only
              refine TurnEnd.ret ?_
              dsimp only
              k_steps
              rename Fr h₁ L₁ _ m₁ => kF1
              rename News h₁ L₁ _ _ => kN1
              rw [first_some hpr hv] at hr₁
              exact hr₁ _ _ kF1 (news_sub kN1 fun q hq => by (have hq2 := List.mem_append_left own hq); walk_at "mem tail")
            · exfalso
              rename (_ == _) = false => hbad
              rw [beq_self_eq_true] at hbad
              cases hbad
        case done =>
          intro u6 h6 tk6 hpr F6 N6
          clear F4 N4 F' N'
          k_steps
          rename Fr h₁ L₁ _ m₁ => kF1
          rename News h₁ L₁ _ _ => kN1
          rw [first_none hpr] at hr₁
          exact hr₁ _ _ kF1 (news_sub kN1 fun q hq => by walk_at "mem tail")
    ·
      refine wpAny_call ?_
      k_dflt (refine' kdv_code ?k1 ?k2 ?k3 ?k4 ?k5 ?kA ?kF ?kK ?k6 ?k7 ?k8 ?k9 ?kB ?_ ?c2 ?c3 ?c4 ?c5; (case kA => exact rfl); (case kF => exact rfl); (case kK => exact hk₁); (case k1 => k_asm); (case k2 => k_asm); (case k3 => k_asm); (case k4 => k_asm); (case k5 => k_asm); (case k6 => k_mem); (case k7 => exact codeRec_news (by k_asm) (by k_mem) (by assumption) (by assumption)); (case k8 => ktr_room); (case k9 => kdv_bind); (case c5 => decide); (case kB => exact locs rfl); (case c2 => exact rfl); (case c3 => exact rfl); (case c4 => exact rfl); k_whole; intro g' L' h' FG' F' N' B' X' T'; (try dsimp only); (try k_lift B'); (try k_fold))
      k_steps
      with_reducible refine Halt.out ?_
      k_dflt (refine' For_invV g' ?x1 ?x2 ?iter ?hs ?hE)
      case x1 => rfl
      case x2 => rfl
      case hs => intro _; rfl
      case hE => passes_own
      case iter =>
        k_steps
        with_reducible refine Halt.out ?_
        rename Fr g' L' _ _ => F4
        rename News g' L' _ _ => N4
        rw [slice_drop0 hp0] at N4
        k_dflt (refine' loop_items (fun i => ∀ k, k < i → (its.drop pos₁)[k]? = some .none) rfl F4 N4 ⟨_, (N4 _ (.head _)).1, rfl, _, rfl⟩ ?hLa (fun k hk => absurd hk (Nat.not_lt_zero _)) ?turn ?done)
        case hLa => exact Ne.symm (N4 _ (.head _)).2.1
        case turn =>
          intro I i v h6 tk6 own hv hpr hI6 hown _ F6 N6
          clear F4 N4 F' N'
          have hv' : its[pos₁ + i]? = some v := by simpa [List.getElem?_drop] using hv
          rcases hI _ _ hv' with rfl | ⟨f, rfl, hin⟩
          · k_steps
            exact TurnEnd.next F6 N6 hI6 ⟨⟨_, rfl⟩, rfl, none_next hpr hv⟩
          · obtain ⟨fo, d, dob, f1, f2, f3, hfo, hcls, hncl, hdict, hdm, hns, hend, hstart, hspan⟩ := hin
            have hsubN : ∀ q ∈ nw, q ∈ nw₁ ++ own := fun q hq => List.mem_append_left own (sub₁ q (List.mem_append_right _ hq))
            have N7 := news_swap N6
            simp only [List.cons_append] at N7
            have m1 := hsubN _ hfo
            have m2 := hsubN _ hdm
            replace N7 := news_add (x := (d, dob)) N7 (by walk_at "mem tail")
            replace N7 := news_add (x := (f, fo)) N7 (by walk_at "mem tail")
            clear N6
            k_steps
            · dsimp only
              refine TurnEnd.ret ?_
              dsimp only
              k_steps
              rename Fr h₁ L₁ _ m₁ => kF1
              rename News h₁ L₁ _ _ => kN1
              rw [first_some hpr hv] at hr₁
              exact hr₁ _ _ kF1 (news_sub kN1 fun q hq => by (have hq2 := List.mem_append_left own hq); walk_at "mem tail")
            · exfalso
              rename (_ == _) = false => hbad
              rw [beq_self_eq_true] at hbad
              cases hbad
        case done =>
          intro u6 h6 tk6 hpr F6 N6
          clear F4 N4 F' N'
          k_steps
          rename Fr h₁ L₁ _ m₁ => kF1
          rename News h₁ L₁ _ _ => kN1
          rw [first_none hpr] at hr₁
          exact hr₁ _ _ kF1 (news_sub kN1 fun q hq => by walk_at "mem tail")
end
end Mine
end

section -- SR
open PySem PySem.W PyProof.Rows PyProof.Rows.LCg
set_option maxRecDepth 100000
namespace Mine
theorem off_SR : True := by (w_top off; trivial)
def nextFrom : List Value → Nat → Option (Nat × Value)
  | [], _ => none
  | .none :: r, k => nextFrom r (k + 1)
  | v :: _, k => some (k, v)
def nextAt (its : List Value) (pos : Nat) : Option (Nat × Value) := nextFrom (its.drop pos) pos
def revGo (its : List Value) (col : Nat) : Nat → Nat → Value → Value
  | 0, _, found => found
  | fuel + 1, pos, found => match nextAt its pos with
    | none => found
    | some (i, v) => if i + 2 ≤ col then revGo its col fuel (i + 2) v else found
def rev (its : List Value) (col : Nat) : Value := revGo its col (its.length + 1) 0 .none
theorem rev_none {its : List Value} {c : Nat} (h : nextAt its 0 = none) : rev its c = .none := by unfold rev revGo; rw [h]
theorem rev_start {its : List Value} {c i : Nat} {v : Value} (h : nextAt its 0 = some (i, v)) : rev its c = if i + 2 ≤ c then revGo its c its.length (i + 2) v else .none := by unfold rev; rw [revGo, h]
theorem rev_last {its : List Value} {c n pos : Nat} {v : Value} (h : nextAt its pos = none) : revGo its c (n + 1) pos v = v := by unfold revGo; rw [h]
theorem rev_next {its : List Value} {c n pos i : Nat} {v x : Value} (h : nextAt its pos = some (i, x)) : revGo its c (n + 1) pos v = if i + 2 ≤ c then revGo its c n (i + 2) x else v := by rw [revGo, h]
theorem next_list (w : World) (p : Program) (loose : List Str) (mean : ExcName → Option Value) (mg mb : Str → Option Value) (l : List (Addr × Obj)) : ∀ (r : List Value) (k : Nat), (∀ (i : Nat) v, r[i]? = some v → v = .none ∨ ∃ f, v = .ref f ∧ HitIn w p loose mean mg mb l f ((k + i : Nat) : Int)) →
    (nextFrom r k = none ∧ firstFrom r = .none) ∨ ∃ i f, nextFrom r k = some (i, .ref f) ∧ firstFrom r = .ref f ∧ k ≤ i ∧ i < k + r.length ∧ HitIn w p loose mean mg mb l f (i : Int)
  | [], k, _ => .inl ⟨rfl, rfl⟩
  | v :: r, k, h => by
    rcases h 0 v rfl with rfl | ⟨f, rfl, hf⟩
    · rcases next_list w p loose mean mg mb l r (k + 1) (fun i v hv => by have := h (i + 1) v (by simpa using hv); rwa [show k + (i + 1) = k + 1 + i by omega] at this) with h1 | ⟨i, f, h1, h2, h3, h4, h5⟩
      · exact .inl h1
      · exact .inr ⟨i, f, h1, h2, by omega, by simp only [List.length_cons]; omega, h5⟩
    · exact .inr ⟨k, f, rfl, rfl, Nat.le_refl _, by simp only [List.length_cons]; omega, by simpa using hf⟩
theorem next_cases {w : World} {p : Program} {loose : List Str} {mean : ExcName → Option Value} {mg mb : Str → Option Value} {l : List (Addr × Obj)} {its : List Value} (hI : HitsOk w p loose mean mg mb l its) (pos : Nat) :
    (nextAt its pos = none ∧ firstFrom (its.drop pos) = .none) ∨ ∃ i f, nextAt its pos = some (i, .ref f) ∧ firstFrom (its.drop pos) = .ref f ∧ pos ≤ i ∧ i < its.length ∧ HitIn w p loose mean mg mb l f (i : Int) := by
  rcases next_list w p loose mean mg mb l (its.drop pos) pos (fun i v hv => hI (pos + i) v (by simpa [List.getElem?_drop] using hv)) with h | ⟨i, f, h1, h2, h3, h4, h5⟩
  · exact .inl h
  · refine .inr ⟨i, f, h1, h2, h3, ?_, h5⟩
    simp only [List.length_drop] at h4
    omega
section
variable {w : World} {p : Program} {loose : List Str} {mean : ExcName → Option Value} {mg mb : Str → Option Value} {l : List (Addr × Obj)} {f fs : Addr} {y : Str} {its : List Value} {i j : Int}
  {dp un : Nat} {gd : Option (List Code)} {cn : Str} {cs : Scope} {a : Addr} {ccd : Value} {cl : List (Str × Addr)} {outer : List Env} {A₀ : Around} {base h₀ : Heap} {L : Addr} {m : Str → Option Value} {news : List (Addr × Obj)} {s : Shared} {Q E : Value → Shared → Prop}
theorem LamPair.use (x : LamPair w p loose mean mg mb l f i j)
    (B : Below A₀ base outer h₀) (F : Fr h₀ L s.heap m) (X : (hd.heap_39 w.params).In h₀) (N : News h₀ L s.heap news) (T : Top p loose mean mg mb h₀) (hk : cs.kind = .function) (hd : dp + 4 < recursionLimit) (sub : ∀ q ∈ l, q ∈ news)
    (hr : ∀ q t u h' tk', Fr h₀ L h' m → News h₀ L h' ((q, tupO (.int i t) (.int j u)) :: news) → (∀ p ∈ news, p.1 < q) → Q (.ref q) { s with heap := h', toks := tk' }) :
    wpAny (model PySem.Challenge.rw_il0002_01.row.prog w) (ktrTop dp un gd cn cs L a ccd cl outer) (call (.ref f) []) Q E s :=
  x.2 dp un gd cn cs a ccd cl outer A₀ base h₀ L m news s Q E B F X N T hk hd sub hr
theorem LamPair.fn (x : LamPair w p loose mean mg mb l f i j) : FnIn l f := x.1
theorem SearchLaw.fn (x : SearchLaw w p loose mean mg mb l f y its) : FnIn l f := x.1
theorem SearchLaw.use0 {t : Tok} (x : SearchLaw w p loose mean mg mb l f y its) (hI : HitsOk w p loose mean mg mb l its)
    (B : Below A₀ base outer h₀) (F : Fr h₀ L s.heap m) (X : (hd.heap_39 w.params).In h₀) (N : News h₀ L s.heap news) (T : Top p loose mean mg mb h₀) (hk : cs.kind = .function) (hd : dp + 10 < recursionLimit) (sub : ∀ q ∈ l, q ∈ news)
    (h0 : nextAt its 0 = none → ∀ h' tk', Fr h₀ L h' m → News h₀ L h' news → Q .none { s with heap := h', toks := tk' })
    (h1 : ∀ (i : Nat) f, nextAt its 0 = some (i, .ref f) → i < its.length → HitIn w p loose mean mg mb l f i → ∀ h' tk', Fr h₀ L h' m → News h₀ L h' news → Q (.ref f) { s with heap := h', toks := tk' }) :
    wpAny (model PySem.Challenge.rw_il0002_01.row.prog w) (ktrTop dp un gd cn cs L a ccd cl outer) (call (.ref f) [.str y t]) Q E s := by
  refine x.2 dp un gd cn cs a ccd cl outer A₀ base h₀ L m news s Q E 0 t 0 _ B F X N T hk hd sub (.inr ⟨rfl, rfl⟩) fun h' tk' F' N' => ?_
  rcases next_cases hI 0 with ⟨e1, e2⟩ | ⟨i, f, e1, e2, _, e4, e5⟩
  · rw [e2]; exact h0 e1 h' tk' F' N'
  · rw [e2]; exact h1 i f e1 e4 e5 h' tk' F' N'
theorem SearchLaw.use1 {t u : Tok} {k : Int} (x : SearchLaw w p loose mean mg mb l f y its) (hI : HitsOk w p loose mean mg mb l its) (hk0 : 0 ≤ k)
    (B : Below A₀ base outer h₀) (F : Fr h₀ L s.heap m) (X : (hd.heap_39 w.params).In h₀) (N : News h₀ L s.heap news) (T : Top p loose mean mg mb h₀) (hk : cs.kind = .function) (hd : dp + 10 < recursionLimit) (sub : ∀ q ∈ l, q ∈ news)
    (h0 : nextAt its k.toNat = none → ∀ h' tk', Fr h₀ L h' m → News h₀ L h' news → Q .none { s with heap := h', toks := tk' })
    (h1 : ∀ (i : Nat) f, nextAt its k.toNat = some (i, .ref f) → k.toNat ≤ i → i < its.length → HitIn w p loose mean mg mb l f i → ∀ h' tk', Fr h₀ L h' m → News h₀ L h' news → Q (.ref f) { s with heap := h', toks := tk' }) :
    wpAny (model PySem.Challenge.rw_il0002_01.row.prog w) (ktrTop dp un gd cn cs L a ccd cl outer) (call (.ref f) [.str y t, .int k u]) Q E s := by
  refine x.2 dp un gd cn cs a ccd cl outer A₀ base h₀ L m news s Q E k.toNat t u _ B F X N T hk hd sub (.inl (by rw [Int.toNat_of_nonneg hk0])) fun h' tk' F' N' => ?_
  rcases next_cases hI k.toNat with ⟨e1, e2⟩ | ⟨i, f, e1, e2, e3, e4, e5⟩
  · rw [e2]; exact h0 e1 h' tk' F' N'
  · rw [e2]; exact h1 i f e1 e3 e4 e5 h' tk' F' N'
end
section
variable {prog : Program} {w : World} {A : Around} {E : Value → Shared → Prop} {s : Shared} {p : Program} {loose : List Str} {mean : ExcName → Option Value} {mg mb : Str → Option Value} {l news : List (Addr × Obj)} {f fs L : Addr} {h₀ : Heap} {n : Int}
theorem hit_span {pl : Sem Bool} {Q : Value × List Value → Shared → Prop} (x : HitIn w p loose mean mg mb l f n) (N : News h₀ L s.heap news) (sub : ∀ q ∈ l, q ∈ news)
    (h : ∀ f1, LamPair w p loose mean mg mb l f1 n (n + 2) → Q (.ref f1, []) { s with toks := s.toks + 1 }) : wpAny (model prog w) A (getMethod (.ref f) (Str.ofString "span") pl) Q E s :=
  let ⟨_, _, _, f1, _, _, h1, h2, h3, h4, h5, h6, _, _, h9⟩ := x
  fn_get N (sub _ h1) (sub _ h5) h2 h3 h4 h6 no_span rfl rfl (h f1 h9)
theorem hit_typed (x : HitIn w p loose mean mg mb l f n) (N : News h₀ L s.heap news) (sub : ∀ q ∈ l, q ∈ news) : s.TypeIs (.ref f) "function" :=
  let ⟨fo, _, _, _, _, _, h1, h2, _⟩ := x
  ⟨fo, (N _ (sub _ h1)).1, h2⟩
theorem prog_get {pl : Sem Bool} {Q : Value × List Value → Shared → Prop} (x : ProgIn l f fs) (N : News h₀ L s.heap news) (sub : ∀ q ∈ l, q ∈ news)
    (h : Q (.ref fs, []) { s with toks := s.toks + 1 }) : wpAny (model prog w) A (getMethod (.ref f) (Str.ofString "search") pl) Q E s :=
  let ⟨_, _, _, h1, h2, h3, h4, h5, h6⟩ := x
  fn_get N (sub _ h1) (sub _ h5) h2 h3 h4 h6 no_search rfl rfl h
end
section
variable {w : World} {p : Program} {loose : List Str} {mean : ExcName → Option Value} {mg mb : Str → Option Value}
  {cn : Str} {cs : Scope} {a : Addr} {ccd : Value} {h₀ : Heap} {L : Addr} {m : Str → Option Value} {l news : List (Addr × Obj)} {s : Shared} {Q E : Value → Shared → Prop}
local macro_rules | `(tactic| k_room) => `(tactic| ktr_room)
local macro_rules | `(tactic| walk_at "call type:type") => `(tactic| (k_here; (with_reducible show wpAny _ _ (call (Value.type "type") [Value.bytes _ _]) _ _ _); refine call_type_of (typeIs_bytes _ _ _) (by decide +kernel) ?_))
local macro_rules | `(tactic| walk_at "call type:type") => `(tactic| (k_here; (with_reducible show wpAny _ _ (call (Value.type "type") [Value.str _ _]) _ _ _); refine call_type_of (typeIs_str _ _ _) (by decide +kernel) ?_))
local macro_rules | `(tactic| walk_at "call ref") => `(tactic| (k_here; (with_reducible show wpAny _ _ (call (Value.ref 78) [Value.int _ _]) _ _ _); k_dflt (refine' hex_spec ?B ?F ?K ?N ?T ?k ?d _ _ ?_; (case B => k_asm); (case F => k_asm); (case K => k_asm); (case N => k_asm); (case T => k_asm); (case k => first | exact rfl | assumption); (case d => ktr_room); intro t9 h9 tk9 F9 N9; (try dsimp only); (try k_sweep))))
local macro_rules | `(tactic| walk_at "subscriptTail") => `(tactic| (k_here; (with_reducible show wpAny _ _ (subscriptTail _ _ (Value.bytes _ _) (Value.int _ _)) _ _ _); (refine bytes_item ?z ?a ?b ?_; (case z => omega); (case a => omega); (case b => omega)); intro t9 k9))
local macro_rules | `(tactic| k_all) => `(tactic| first | exact allNe_of_lt (by assumption) | exact allNe_of_lt (allLt_back (by assumption)))
local macro_rules | `(tactic| walk_at "call builtin:list.append") => `(tactic| (k_here; (with_reducible show wpAny _ _ (call (Value.builtin _) [Value.ref _, _]) _ _ _); k_dflt (refine' append_K ?k1 ?k2 ?k3 ?_ ?z; (case k1 => k_asm); (case k2 => k_asm); (case k3 => k_upd); (case z => (rw [PySem.sizeLine_eq]; omega)); k_whole); intro h' F' N'; (try k_sweep)))
local macro_rules | `(tactic| ksw_same) => `(tactic| (intro z h2 h3; (simp only [List.forall_mem_cons, List.not_mem_nil, false_implies, implies_true, and_true, ne_eq] at h2); (have h4 := h3); (simp only [List.contains_cons, List.contains_nil, Bool.or_false, Bool.or_eq_false_iff, beq_eq_false_iff_ne, ne_eq] at h4); (simp [kstB, h2, h3, h4]; done)))
local macro_rules | `(tactic| walk_at "call ref") => `(tactic| (k_here; (with_reducible show wpAny _ _ (call (Value.ref 85) [Value.bytes _ _]) _ _ _); k_dflt (refine' a2b_spec ?B ?F ?K ?N ?T ?k ?d _ _ ?z ?e ?kn ?_; (case B => k_asm); (case F => k_asm); (case K => k_asm); (case N => k_asm); (case T => k_asm); (case k => first | exact rfl | assumption); (case d => ktr_room); (case z => omega); (case e => assumption); (case kn => exact known_of (by assumption)); intro t9 h9 tk9 F9 N9; (try dsimp only); (try k_sweep))))
local macro_rules | `(tactic| walk_at "getMethod str") => `(tactic| (k_here; with_reducible refine getMethod_encode ?_))
local macro_rules | `(tactic| walk_at "getMethod bytes") => `(tactic| (k_here; with_reducible refine getMethod_upper ?_))
local macro_rules | `(tactic| walk_at "call builtin:str.encode") => `(tactic| (k_here; (refine encode_ascii ?a ?b ?_; (case a => assumption); (case b => (rw [PySem.sizeLine_eq]; omega))); intro t9 k9))
local macro_rules | `(tactic| walk_at "call builtin:bytes.upper") => `(tactic| (k_here; (refine bytes_upper ?b ?_; (case b => (rw [PySem.sizeLine_eq]; omega))); intro t9 k9))
local macro_rules | `(tactic| walk_at "getMethod ref") => `(tactic| (k_here; (with_reducible show wpAny _ _ (getMethod (Value.ref 43) _ _) _ _ _); k_dflt (refine' pat_method ?F ?X ?l ?_; (case F => k_asm); (case X => k_asm); (case l => k_is))))
local macro_rules | `(tactic| walk_at "call builtin:re.Pattern.search") => `(tactic| (k_here; k_dflt (first
  | (refine' pat_no ?F ?X ?l ?c ?i ?z ?f ?_; (case f => assumption); (case F => k_asm); (case X => k_asm); (case l => k_is); (case c => k_is); (case i => kernel_rfl); (case z => omega))
  | (refine' pat_yes ?F ?N ?X ?l ?c ?i ?z ?f ?_; (case f => assumption); (case F => k_asm); (case N => k_asm); (case X => k_asm); (case l => k_is); (case c => k_is); (case i => kernel_rfl); (case z => omega); intro M9 h9 F9 N9 T9; (try k_sweep)))))
local macro_rules | `(tactic| walk_at "truthy ref") => `(tactic| (k_here; refine truthy_typed (by assumption) match_no_bool match_no_len ?_))
local macro_rules | `(tactic| walk_at "truthOfDropped ref") => `(tactic| (k_here; refine truthOfDropped_typed (by assumption) match_no_bool match_no_len ?_))
local macro_rules | `(tactic| walk_at "call type:str") => `(tactic| (k_here; (with_reducible show wpAny _ _ (call (Value.type "str") [Value.ref _]) _ _ _); (with_reducible rename Got _ _ _ _ _ => gX); k_dflt (refine' str_of_own ?X ?u (excOwn_of ?N gX) ?f ?s ?_; (case X => k_in); (case u => exact Nat.le_of_ble_eq_true rfl); (case N => k_asm); (case f => k_is); (case s => k_is))))
local macro_rules | `(tactic| walk_at "mem tail") => `(tactic| first | assumption | (refine List.Mem.tail _ ?_; walk_at "mem tail"))
local macro_rules | `(tactic| k_all) => `(tactic| first | assumption | (refine allNe_of_le (b := ?bb) ?hh ?bd; (case hh => assumption); (case bd => omega)))
local macro_rules | `(tactic| walk_at "sub news") => `(tactic| (intro q hq; (have hq2 := (by assumption : ∀ q ∈ _, q ∈ _) q hq); walk_at "mem tail"))
local macro_rules | `(tactic| walk_at "getMethod ref") => `(tactic| (k_here; (with_reducible show wpAny _ _ (getMethod (Value.ref _) _ _) _ _ _); k_dflt (first
  | (refine' prog_get ?x ?N ?sub ?_; (case x => assumption); (case N => k_asm); (case sub => walk_at "sub news"))
  | (refine' hit_span ?x ?N ?sub ?_; (case x => assumption); (case N => k_asm); (case sub => walk_at "sub news"); intro f1 hp1))))
local macro_rules | `(tactic| walk_at "callWith ref") => `(tactic| (k_here; (dsimp only); k_dflt (first
  | (refine' callWith_F0 (FnIn.at (LamPair.fn ?hL) ?N ?sub) ?_; (case hL => assumption); (case N => k_asm); (case sub => walk_at "sub news"); (try dsimp only [List.nil_append, List.append_nil]))
  | (refine' callWith_F (FnIn.at (SearchLaw.fn ?hL) ?N ?sub) ?_; (case hL => assumption); (case N => k_asm); (case sub => walk_at "sub news")))))
local macro_rules | `(tactic| walk_at "FnAt") => `(tactic| (k_dflt (refine' FnIn.at (SearchLaw.fn ?hL) ?N ?sub; (case hL => assumption); (case N => k_asm); (case sub => walk_at "sub news"))))
local macro_rules | `(tactic| walk_at "truthy ref") => `(tactic| (k_here; (refine truthy_typed (hit_typed (by assumption) (by k_asm) (by walk_at "sub news")) function_no_bool function_no_len ?_)))
local macro_rules | `(tactic| walk_at "truthOfDropped ref") => `(tactic| (k_here; (refine truthOfDropped_typed (hit_typed (by assumption) (by k_asm) (by walk_at "sub news")) function_no_bool function_no_len ?_)))
local macro_rules | `(tactic| walk_at "call ref") => `(tactic| (k_here; (with_reducible show wpAny _ _ (call (Value.ref _) _) _ _ _); k_dflt (first
  | (refine' LamPair.use ?hL ?B ?F ?X ?N ?T ?k ?d ?sub ?_; (case hL => assumption); (case B => k_asm); (case F => k_asm); (case X => k_asm); (case N => k_asm); (case T => k_asm); (case k => first | exact rfl | assumption); (case d => ktr_room); (case sub => walk_at "sub news"); intro q9 t9 u9 h9 k9 F9 N9 l9; (try k_lt l9); (try dsimp only); (try k_sweep))
  | (refine' SearchLaw.use0 ?hL ?hI ?B ?F ?X ?N ?T ?k ?d ?sub ?g0 ?g1; (case hL => assumption); (case hI => assumption); (case B => k_asm); (case F => k_asm); (case X => k_asm); (case N => k_asm); (case T => k_asm); (case k => first | exact rfl | assumption); (case d => ktr_room); (case sub => walk_at "sub news"); (case' g0 => (intro e9 h9 k9 F9 N9; (try dsimp only); (try k_sweep))); (case' g1 => (intro i9 f9 e9 b9 x9 h9 k9 F9 N9; (try dsimp only); (try k_sweep))))
  | (refine' SearchLaw.use1 ?hL ?hI ?hz ?B ?F ?X ?N ?T ?k ?d ?sub ?g0 ?g1; (case hL => assumption); (case hI => assumption); (case hz => (first | omega | (dsimp only; omega) | exact Int.add_nonneg (Int.natCast_nonneg _) (by decide))); (case B => k_asm); (case F => k_asm); (case X => k_asm); (case N => k_asm); (case T => k_asm); (case k => first | exact rfl | assumption); (case d => ktr_room); (case sub => walk_at "sub news"); (case' g0 => (intro e9 h9 k9 F9 N9; (try dsimp only); (try k_sweep))); (case' g1 => (intro i9 f9 e9 b8 b9 x9 h9 k9 F9 N9; (try dsimp only); (try k_sweep)))))))
local macro_rules | `(tactic| walk_at "KswEnd") => `(tactic| refine Halt.mk ?_)
local macro_rules | `(tactic| walk_at "exec While BoolOp cons nil") => `(tactic| refine Halt.mk ?_)
set_option maxHeartbeats 8000000 in
theorem sr_spec {fprog fs : Addr} {y : Str} {its : List Value} {c : Nat} (B : Below callerA h₀ [] h₀) (F : Fr h₀ L s.heap m) (KX : (hd.heap_39 w.params).In h₀) (N : News h₀ L s.heap news) (T : Top p loose mean mg mb h₀) (hk : cs.kind = .function)
  (hp : ProgIn l fprog fs) (hs : SearchLaw w p loose mean mg mb l fs y its) (hI : HitsOk w p loose mean mg mb l its) (sub : ∀ q ∈ l, q ∈ news) (t u : Tok)
  (hret : ∀ (h' : Heap) (tk' : Nat), Fr h₀ L h' m → News h₀ L h' news → Q (rev its c) { s with heap := h', toks := tk' }) :
  wpAny (model PySem.Challenge.rw_il0002_01.row.prog w) (callerA.deeper (envOf cn cs L a ccd)) (call (.ref 100) [.ref fprog, .str y t, .int (c : Int) u]) Q E s := by
  revert KX; k_fill; intro KX
  refine wpAny_call ?_
  k_dflt cell_enter
  k_steps
  · with_reducible refine Halt.out ?_
    rename Fr _ _ _ _ => F1
    rename News _ _ _ _ => N1
    rename nextAt its 0 = some (_, Value.ref _) => e0
    rename HitIn _ _ _ _ _ _ _ _ _ => x0
    replace N1 := news_sub N1 (l' := news) fun q hq => .tail _ hq
    have r0 := rev_start (c := c) e0
    refine' ksw_while (σ := Nat × Nat × Addr × Value × Tok × Tok) (fun _ => news) (fun z => [("found", z.2.2.2.1), ("m", .ref z.2.2.1), ("i", .int (z.1 : Int) z.2.2.2.2.1), ("j", .int ((z.1 : Int) + 2) z.2.2.2.2.2)]) (fun _ => True) []
      (fun z => z.1 < its.length ∧ HitIn w p loose mean mg mb l z.2.2.1 (z.1 : Int) ∧ its.length ≤ z.2.1 + z.1 ∧ rev its c = if z.1 + 2 ≤ c then revGo its c z.2.1 (z.1 + 2) (.ref z.2.2.1) else z.2.2.2.1) (fun z => its.length - z.1) (_, its.length, _, .none, ?ti, ?tj) F1 N1 ?hf ?hk ?hp ?turn ?hE
    case hk => kst_all
    case hf => trivial
    case hE => passes_own
    case hp => exact ⟨by assumption, x0, Nat.le_add_right _ _, r0⟩
    case turn =>
      rintro ⟨i, fuel, f, found, ti, tj⟩ v h tk _ ⟨hi, hx, hfu, hr⟩ F2 N2
      dsimp only at hi hx hfu hr F2 N2
      clear F1 N1
      k_steps
      · exfalso; omega
      · have e2 : ((i : Int) + 2).toNat = i + 2 := by omega
        obtain ⟨n, hn⟩ : ∃ n, fuel = n + 1 := ⟨fuel - 1, by omega⟩
        rw [if_pos (by omega), hn] at hr
        walk_at "call ref"
        case g0 =>
          k_steps
          rename Fr h₀ L _ m => kF
          rename News h₀ L _ _ => kN
          rename nextAt its (Int.toNat _) = none => en
          rw [e2] at en
          rw [hr, rev_last en] at hret
          exact hret _ _ kF kN
        case g1 =>
          k_steps
          with_reducible refine Halt.out ?_
          rename Fr _ _ _ _ => F3
          rename News _ _ _ _ => N3
          rename nextAt its (Int.toNat _) = some _ => en
          rename Int.toNat _ ≤ _ => hle
          rename HitIn _ _ _ _ _ _ _ _ _ => hx3
          rw [e2] at en hle
          rw [rev_next en] at hr
          refine' ksw_end (_, n, _, _, _, _) F3 N3 (fun p hp => .tail _ hp) trivial ?kk (by ksw_same) ?pp ?mm
          case kk => kst_all
          case pp => exact ⟨by assumption, hx3, by (dsimp only; omega), hr⟩
          case mm => (dsimp only; omega)
      · rename Fr h₀ L _ m => kF
        rename News h₀ L _ _ => kN
        rw [hr, if_neg (by omega)] at hret
        exact hret _ _ kF kN
      · rename Fr h₀ L _ m => kF
        rename News h₀ L _ _ => kN
        rw [hr, if_neg (by omega)] at hret
        exact hret _ _ kF kN
  · rename Fr h₀ L _ m => kF
    rename News h₀ L _ _ => kN
    rename nextAt its 0 = none => e0
    rw [rev_none e0] at hret
    exact hret _ _ kF kN
end
end Mine
end

section -- UN
open PySem PySem.W PyProof.Rows
namespace Mine
theorem off_UN : True := by (w_top off; trivial)
def St2 (t2 : Array Value) (l : List (Addr × Obj)) : Prop := t2 = #[] ∨ ∃ c0 c1 c2 c3, t2 = tab4 c0 c1 c2 c3 ∧ CodesIn l c0 c1 c2 c3
def St9 (t9 : Array Value) (l : List (Addr × Obj)) : Prop := t9 = #[] ∨ ∃ c4 c5, t9 = tab2 c4 c5 ∧ Codes2 l c4 c5
theorem CodeQ.mono {q : Str} {l l' : List (Addr × Obj)} {c : Addr} (x : CodeQ q l c) (k : ∀ q ∈ l, q ∈ l') : CodeQ q l' c := let ⟨oc, vs, t, h1, r⟩ := x; ⟨oc, vs, t, k _ h1, r⟩
theorem St2.mono {t2 : Array Value} {l l' : List (Addr × Obj)} (x : St2 t2 l) (k : ∀ q ∈ l, q ∈ l') : St2 t2 l' := x.imp id fun ⟨c0, c1, c2, c3, e, h⟩ => ⟨c0, c1, c2, c3, e, h.mono k⟩
theorem St9.mono {t9 : Array Value} {l l' : List (Addr × Obj)} (x : St9 t9 l) (k : ∀ q ∈ l, q ∈ l') : St9 t9 l' := x.imp id fun ⟨c4, c5, e, h⟩ => ⟨c4, c5, e, h.1.mono k, h.2.mono k⟩
section
variable {w : World} {p : Program} {loose : List Str} {mean : ExcName → Option Value} {mg mb : Str → Option Value}
  {cn : Str} {cs : Scope} {a : Addr} {ccd : Value} {h₀ : Heap} {L : Addr} {m : Str → Option Value} {nw : List (Addr × Obj)} {s : Shared} {Q E : Value → Shared → Prop}
theorem hit_spec {t2 : Array Value} {cd : List (Addr × Obj)} (B : Below callerA h₀ [] h₀) (F : Fr h₀ L s.heap m) (KX : (hd.heap_39 w.params).In h₀) (N : News h₀ L s.heap ((102, tabObj t2) :: nw)) (T : Top p loose mean mg mb h₀) (hk : cs.kind = .function)
  (CH : CodeHd h₀ 106 102) (hn : ∀ p ∈ nw, p.1 ≠ 102) (h2 : St2 t2 cd) (hcd : ∀ q ∈ cd, q ∈ nw) (n : Int) (t : Tok)
  (hret : ∀ (f : Addr) (h' : Heap) (tk' : Nat) (ext : List (Addr × Obj)) (t2' : Array Value), Fr h₀ L h' m → News h₀ L h' ((102, tabObj t2') :: (ext ++ nw)) → (t2' = t2 ∨ St2 t2' ext) → HitIn w p loose mean mg mb (ext ++ cd) f n → Above ext nw → Q (.ref f) { s with heap := h', toks := tk' }) :
  wpAny (model PySem.Challenge.rw_il0002_01.row.prog w) (callerA.deeper (envOf cn cs L a ccd)) (call (.ref 107) [.int n t]) Q E s := by
  rcases h2 with rfl | ⟨c0, c1, c2, c3, rfl, hC⟩
  · exact hit_spec0 B F KX N T hk CH hn n t fun f h' tk' ext c0 c1 c2 c3 F' N' hC hH hA => hret f h' tk' ext _ F' N' (.inr (.inr ⟨c0, c1, c2, c3, rfl, hC⟩)) (hH.mono fun q hq => List.mem_append_left _ hq) hA
  · exact hit_spec1 B F KX N T hk CH hn hC hcd n t fun f h' tk' ext F' N' hH hA => hret f h' tk' ext _ F' N' (.inl rfl) hH hA
theorem fnd_spec {t9 : Array Value} (B : Below callerA h₀ [] h₀) (F : Fr h₀ L s.heap m) (KX : (hd.heap_39 w.params).In h₀) (N : News h₀ L s.heap ((109, tabObj t9) :: nw)) (T : Top p loose mean mg mb h₀) (hk : cs.kind = .function)
  (CH : CodeHd h₀ 113 109) (hn : ∀ p ∈ nw, p.1 ≠ 109) (h9 : St9 t9 nw) (D : Addr) (its : List Value) (kk : Nat) (y : Str) (t : Tok) (hD : (D, ({ cls := .type "list", data := .seq its.toArray kk } : Obj)) ∈ nw) (hI : HitsOk w p loose mean mg mb nw its) (hz : its.length ≤ 1000) (hy : y.cps.size ≤ 16777216)
  (hret : ∀ (f : Addr) (h' : Heap) (tk' : Nat) (ext : List (Addr × Obj)) (t9' : Array Value) (fs : Addr), Fr h₀ L h' m → News h₀ L h' ((109, tabObj t9') :: (ext ++ nw)) → (t9' = t9 ∨ St9 t9' ext) → ProgIn (ext ++ nw) f fs → SearchLaw w p loose mean mg mb (ext ++ nw) fs y its → Above2 ext nw → Q (.ref f) { s with heap := h', toks := tk' }) :
  wpAny (model PySem.Challenge.rw_il0002_01.row.prog w) (callerA.deeper (envOf cn cs L a ccd)) (call (.ref 114) [.ref D, .str y t]) Q E s := by
  rcases h9 with rfl | ⟨c4, c5, rfl, hC⟩
  · exact fnd_spec0 B F KX N T hk CH hn D its kk y t hD hI hz hy fun f h' tk' ext c4 c5 fs F' N' hC hP hS hA => hret f h' tk' ext _ fs F' N' (.inr (.inr ⟨c4, c5, rfl, hC⟩)) (hP.mono fun q hq => List.mem_append_left _ hq) hS hA
  · exact fnd_spec1 B F KX N T hk CH hn hC D its kk y t hD hI hz hy fun f h' tk' ext fs F' N' hP hS hA => hret f h' tk' ext _ fs F' N' (.inl rfl) (hP.mono fun q hq => List.mem_append_left _ hq) hS hA
end
end Mine
end

section -- LH
open PySem PySem.W PyProof.Rows
namespace Mine
theorem off_LH : True := by (w_top off; trivial)
/-- which items of the hits list are made: at k a hit object if pk k, else None -/
def HOk (w : World) (p : Program) (loose : List Str) (mean : ExcName → Option Value) (mg mb : Str → Option Value) (pk : Nat → Bool) (l : List (Addr × Obj)) (its : List Value) : Prop :=
  ∀ (k : Nat) v, its[k]? = some v → (v = .none ∧ pk k = false) ∨ ∃ f, v = .ref f ∧ HitIn w p loose mean mg mb l f k ∧ pk k = true
theorem HOk.mono {w : World} {p : Program} {loose : List Str} {mean : ExcName → Option Value} {mg mb : Str → Option Value} {pk : Nat → Bool} {l l' : List (Addr × Obj)} {its : List Value} (x : HOk w p loose mean mg mb pk l its) (k : ∀ q ∈ l, q ∈ l') : HOk w p loose mean mg mb pk l' its :=
  fun i v hv => (x i v hv).imp id fun ⟨f, e, h, hp⟩ => ⟨f, e, h.mono k, hp⟩
theorem HOk.hits {w : World} {p : Program} {loose : List Str} {mean : ExcName → Option Value} {mg mb : Str → Option Value} {pk : Nat → Bool} {l : List (Addr × Obj)} {its : List Value} (x : HOk w p loose mean mg mb pk l its) : HitsOk w p loose mean mg mb l its :=
  fun i v hv => (x i v hv).imp (·.1) fun ⟨f, e, h, _⟩ => ⟨f, e, h⟩
theorem HOk.snoc {w : World} {p : Program} {loose : List Str} {mean : ExcName → Option Value} {mg mb : Str → Option Value} {pk : Nat → Bool} {l : List (Addr × Obj)} {its : List Value} {i : Nat} {v : Value} (x : HOk w p loose mean mg mb pk l its) (hi : its.length = i)
    (hv : (v = .none ∧ pk i = false) ∨ ∃ f, v = .ref f ∧ HitIn w p loose mean mg mb l f i ∧ pk i = true) : HOk w p loose mean mg mb pk l (its ++ [v]) := fun k u hu => by
  subst hi
  rcases Nat.lt_trichotomy k its.length with h | h | h
  · exact x k u (by rwa [List.getElem?_append_left h] at hu)
  · subst h
    rw [List.getElem?_append_right (Nat.le_refl _)] at hu
    simp at hu; subst hu; exact hv
  · rw [List.getElem?_eq_none (by rw [List.length_append, List.length_singleton]; omega)] at hu; cases hu
/-- the shape of the ledger while the hits are made -/
structure HS (w : World) (p : Program) (loose : List Str) (mean : ExcName → Option Value) (mg mb : Str → Option Value) (pk : Nat → Bool) (D I0 : Addr) (cds base : List (Addr × Obj)) (i : Nat) (its : List Value) (t2 : Array Value) (ex : List (Addr × Obj)) : Prop where
  len : its.length = i
  ok : HOk w p loose mean mg mb pk (ex ++ base) its
  st : St2 t2 (ex ++ cds)
  above : ∀ q ∈ ex, D < q.1 ∧ I0 < q.1 ∧ (109 : Nat) < q.1
section
variable {prog : Program} {w : World} {A : Around} {E : Value → Shared → Prop} {s : Shared} {h₀ : Heap} {env : Env} {x : Str} {body : List Stmt} {Q : Flow → Shared → Prop} {m₀ : Str → Option Value} {news : List (Addr × Obj)}
  {wd : World} {p : Program} {loose : List Str} {mean : ExcName → Option Value} {mg mb : Str → Option Value} {D I0 : Addr} {cds base : List (Addr × Obj)} {t9 t2 : Array Value} {ep : Nat}
def HitsJ (wd : World) (p : Program) (loose : List Str) (mean : ExcName → Option Value) (mg mb : Str → Option Value) (stored : List Str) (pk : Nat → Bool) (D I0 : Addr) (cds base : List (Addr × Obj)) (t9 : Array Value) (m₀ : Str → Option Value) (i : Nat) (m₁ : Str → Option Value) (nx : List (Addr × Obj)) : Prop :=
  (∃ u : Str → Option Value, m₁ = fun z => if stored.contains z then u z else m₀ z) ∧ ∃ its ep t2 ex, nx = (D, W.listOf (List.toArray its) ep) :: (109, tabObj t9) :: (102, tabObj t2) :: (ex ++ base) ∧ HS wd p loose mean mg mb pk D I0 cds base i its t2 ex
theorem loop_hits {r : Addr} {t₀ u₀ v₀ : Tok} {n : Nat} (T : Top p loose mean mg mb h₀) (stored : List Str) (pk : Nat → Bool) (I0 : Addr) (cds : List (Addr × Obj)) (hh : A.handled = none) (F : Fr h₀ env.locals s.heap m₀)
    (N : News h₀ env.locals s.heap ((D, W.listOf #[] ep) :: (109, tabObj t9) :: (102, tabObj t2) :: base)) (hr : IsRange s.heap r 0 (n : Int) 1 t₀ u₀ v₀) (hn : n < 2 ^ 62) (h2 : St2 t2 cds)
    (turn : ∀ I i t its ep t2 ex (u : Str → Option Value) h tk own, i < n → HS w p loose mean mg mb pk D I0 cds base i its t2 ex → D < I → (∀ q ∈ base, q.1 < I) → (∀ q ∈ ex, q.1 ≠ I) → (∀ q ∈ own, q.1 = I) → (∃ o, (I, o) ∈ own) →
      Fr h₀ env.locals h (fun z => if z = x then some (.int (i : Int) t) else if stored.contains z then u z else m₀ z) → News h₀ env.locals h ((D, W.listOf (List.toArray its) ep) :: (109, tabObj t9) :: (102, tabObj t2) :: (ex ++ base ++ own)) →
      wpAny (model prog w) A (execs body env) (TurnEnd h₀ env.locals I own (HitsJ w p loose mean mg mb stored pk D I0 cds base t9 m₀ (i + 1)) { s with heap := h, toks := tk } Q) E { s with heap := h, toks := tk })
    (done : ∀ (u : Str → Option Value) its ep t2 ex h tk, HS w p loose mean mg mb pk D I0 cds base n its t2 ex → Fr h₀ env.locals h (fun z => if stored.contains z then u z else m₀ z) → News h₀ env.locals h ((D, W.listOf (List.toArray its) ep) :: (109, tabObj t9) :: (102, tabObj t2) :: (ex ++ base)) → Q .next { s with heap := h, toks := tk }) :
    wpAny (model prog w) A (pyIter (.ref r)) (fun it s₂ => LoopAtV prog w A h₀ env x body Q E it s₂) E s := by
  refine loop_range (HitsJ w p loose mean mg mb stored pk D I0 cds base t9 m₀) hh F N hr hn ⟨⟨m₀, by funext z; split <;> rfl⟩, [], ep, t2, [], rfl, ⟨rfl, fun k v hv => by simp at hv, h2, fun q hq => nomatch hq⟩⟩ ?_ ?_
  · rintro I i t m₁ news₁ h tk own hi ⟨⟨u, rfl⟩, its, ep, t2, ex, rfl, hS⟩ k1 k2 k3 k4 F1 N1
    refine turn I i t its ep t2 ex u h tk own hi hS (k1 _ (.head _)) (fun q hq => k1 q (.tail _ (.tail _ (.tail _ hq)))) (fun q hq => k2 q (.tail _ (.tail _ (.tail _ (List.mem_append_left _ hq))))) k3 k4 F1 (news_sub N1 fun q hq => ?_)
    simp only [List.mem_cons, List.mem_append] at hq ⊢
    rcases hq with hq | hq | hq | (hq | hq) | hq <;> simp [hq]
  · rintro m₁ nx h tk ⟨⟨u, rfl⟩, its, ep, t2, ex, rfl, hS⟩ F1 N1
    exact done u its ep t2 ex h tk hS F1 N1
/-- the end of a turn of the hits loop -/
theorem hits_end {stored : List Str} {pk : Nat → Bool} {I : Addr} {i : Nat} {own ex : List (Addr × Obj)} {its : List Value} {h' : Heap} {L : Addr} {tk : Nat} {m' : Str → Option Value} {s₁ : Shared} {rest : List (Addr × Obj)}
    (F : Fr h₀ L h' m') (hm : ∀ z, stored.contains z = false → m' z = m₀ z) (N : News h₀ L h' ((D, W.listOf (List.toArray its) ep) :: (109, tabObj t9) :: (102, tabObj t2) :: rest)) (hrest : ∀ q ∈ ex ++ base ++ own, q ∈ rest)
    (hS : HS wd p loose mean mg mb pk D I0 cds base (i + 1) its t2 ex) (hD : D < I) (h109 : (109 : Nat) < D) (hb : ∀ q ∈ base, q.1 < I) (he : ∀ q ∈ ex, q.1 ≠ I) :
    TurnEnd h₀ L I own (HitsJ wd p loose mean mg mb stored pk D I0 cds base t9 m₀ (i + 1)) s₁ Q .next { s₁ with heap := h', toks := tk } := by
  have hD' : @LT.lt Nat _ D I := hD
  refine TurnEnd.next F (news' := (D, W.listOf (List.toArray its) ep) :: (109, tabObj t9) :: (102, tabObj t2) :: (ex ++ base)) (news_sub N fun q hq => ?_) ?_ ⟨⟨m', ?_⟩, its, ep, t2, ex, rfl, hS⟩
  · simp only [List.mem_cons, List.mem_append] at hq hrest ⊢
    rcases hq with hq | hq | hq | hq | hq | hq
    · exact .inr (.inr (.inr (hrest q (.inr hq))))
    · exact .inl hq
    · exact .inr (.inl hq)
    · exact .inr (.inr (.inl hq))
    · exact .inr (.inr (.inr (hrest q (.inl (.inl hq)))))
    · exact .inr (.inr (.inr (hrest q (.inl (.inr hq)))))
  · intro q hq
    rcases List.mem_cons.mp hq with rfl | hq
    · exact Nat.ne_of_lt hD'
    rcases List.mem_cons.mp hq with rfl | hq
    · exact Nat.ne_of_lt (Nat.lt_trans h109 hD')
    rcases List.mem_cons.mp hq with rfl | hq
    · exact Nat.ne_of_lt (show (102 : Nat) < I from Nat.lt_trans (by decide : (102 : Nat) < 109) (Nat.lt_trans h109 hD'))
    rcases List.mem_append.mp hq with hq | hq
    · exact he q hq
    · exact Nat.ne_of_lt (hb q hq)
  · funext z
    cases hz : stored.contains z with
    | true => simp
    | false => simp [hm z hz]
end
theorem hits_off {w : World} {p : Program} {loose : List Str} {mean : ExcName → Option Value} {mg mb : Str → Option Value} {pk : Nat → Bool} {D I0 J : Addr} {cds base own : List (Addr × Obj)} {i : Nat} {its : List Value} {t2 : Array Value} {ex : List (Addr × Obj)}
    (h : HS w p loose mean mg mb pk D I0 cds base i its t2 ex) (hb : AllLt D base) (hJ : D < J) (ho : ∀ q ∈ own, q.1 = J) : ∀ q ∈ ex ++ base ++ own, q.1 ≠ D := fun q hq => by
  rcases List.mem_append.mp hq with hq | hq
  · rcases List.mem_append.mp hq with hq | hq
    · exact Nat.ne_of_gt (h.above q hq).1
    · exact Nat.ne_of_lt (allLt_back hb q hq)
  · rw [ho q hq]; exact Nat.ne_of_gt hJ
theorem news_2 {h₀ h : Heap} {L : Addr} {a b c : Addr × Obj} {l : List (Addr × Obj)} (N : News h₀ L h (a :: b :: c :: l)) : News h₀ L h (c :: a :: b :: l) := fun q hq => N q (by
  simp only [List.mem_cons] at hq ⊢
  rcases hq with hq | hq | hq | hq <;> simp [hq])
theorem news_3 {h₀ h : Heap} {L : Addr} {a b c : Addr × Obj} {l e : List (Addr × Obj)} (N : News h₀ L h (c :: (e ++ a :: b :: l))) : News h₀ L h (a :: b :: c :: (e ++ l)) := fun q hq => N q (by
  simp only [List.mem_cons, List.mem_append] at hq ⊢
  rcases hq with hq | hq | hq | hq | hq <;> simp [hq])
section
variable {w : World} {p : Program} {loose : List Str} {mean : ExcName → Option Value} {mg mb : Str → Option Value} {pk : Nat → Bool} {D I0 J : Addr} {cds base own : List (Addr × Obj)} {i : Nat} {its : List Value} {t2 t9 : Array Value} {ex : List (Addr × Obj)}
theorem HS.none (h : HS w p loose mean mg mb pk D I0 cds base i its t2 ex) (hp : pk i = false) : HS w p loose mean mg mb pk D I0 cds base (i + 1) (its ++ [.none]) t2 ex :=
  ⟨by rw [List.length_append, h.len]; rfl, h.ok.snoc h.len (.inl ⟨rfl, hp⟩), h.st, h.above⟩
theorem hits_n2 (h : HS w p loose mean mg mb pk D I0 cds base i its t2 ex) {x y : Obj} (h109 : (109 : Nat) < D) (hb : ∀ q ∈ base, q.1 ≠ 109 ∧ q.1 ≠ 102) (hJ : D < J) (ho : ∀ q ∈ own, q.1 = J) : ∀ q ∈ (D, x) :: (109, y) :: (ex ++ base ++ own), q.1 ≠ 102 := fun q hq => by
  have hJ' : @LT.lt Nat _ D J := hJ
  have up : ∀ a : Nat, 109 < a → a ≠ 102 := fun a ha => by omega
  rcases List.mem_cons.mp hq with rfl | hq
  · exact up _ h109
  rcases List.mem_cons.mp hq with rfl | hq
  · exact (by decide : (109 : Nat) ≠ 102)
  rcases List.mem_append.mp hq with hq | hq
  · rcases List.mem_append.mp hq with hq | hq
    · exact up _ (h.above q hq).2.2
    · exact (hb q hq).2
  · rw [ho q hq]; exact up _ (Nat.lt_trans h109 hJ')
theorem hits_off2 {x y : Obj} {ext : List (Addr × Obj)} {l : List (Addr × Obj)} (hA : Above ext ((D, x) :: (109, y) :: l)) (h : ∀ q ∈ l, q.1 ≠ D) : ∀ q ∈ ext ++ l, q.1 ≠ D := fun q hq => by
  obtain ⟨b, _, h1, h2⟩ := hA
  rcases List.mem_append.mp hq with hq | hq
  · exact Nat.ne_of_gt (Nat.lt_of_lt_of_le (h1 _ (.head _)) (h2 q hq))
  · exact h q hq
theorem hits_ne {x y : Obj} {ext : List (Addr × Obj)} (hA : Above ext ((D, x) :: (109, y) :: (ex ++ base ++ own))) (he : ∀ q ∈ ex, q.1 ≠ J) (ho : ∃ o, (J, o) ∈ own) : ∀ q ∈ ext ++ ex, q.1 ≠ J := fun q hq => by
  obtain ⟨b, _, h1, h2⟩ := hA
  obtain ⟨o, ho⟩ := ho
  rcases List.mem_append.mp hq with hq | hq
  · exact Nat.ne_of_gt (Nat.lt_of_lt_of_le (h1 _ (.tail _ (.tail _ (List.mem_append_right _ ho)))) (h2 q hq))
  · exact he q hq
theorem HS.some (h : HS w p loose mean mg mb pk D I0 cds base i its t2 ex) {x y : Obj} {ext : List (Addr × Obj)} {t2' : Array Value} {f : Addr} (hp : pk i = true) (hst : t2' = t2 ∨ St2 t2' ext) (hH : HitIn w p loose mean mg mb (ext ++ (ex ++ cds)) f i)
    (hA : Above ext ((D, x) :: (109, y) :: (ex ++ base ++ own))) (hI : ∃ o, (I0, o) ∈ base) (hcb : ∀ q ∈ cds, q ∈ base) : HS w p loose mean mg mb pk D I0 cds base (i + 1) (its ++ [.ref f]) t2' (ext ++ ex) where
  len := by rw [List.length_append, h.len]; rfl
  ok := by
    refine (h.ok.mono fun q hq => ?_).snoc h.len (.inr ⟨f, rfl, hH.mono fun q hq => ?_, hp⟩)
    · rw [List.append_assoc]; exact List.mem_append_right _ hq
    · simp only [List.mem_append] at hq ⊢
      rcases hq with hq | hq | hq
      · exact .inl (.inl hq)
      · exact .inl (.inr hq)
      · exact .inr (hcb q hq)
  st := by
    rcases hst with rfl | hst
    · exact h.st.mono fun q hq => by rw [List.append_assoc]; exact List.mem_append_right _ hq
    · exact hst.mono fun q hq => List.mem_append_left _ (List.mem_append_left _ hq)
  above := fun q hq => by
    obtain ⟨b, _, h1, h2⟩ := hA
    obtain ⟨o, hI⟩ := hI
    rcases List.mem_append.mp hq with hq | hq
    · exact ⟨Nat.lt_of_lt_of_le (h1 _ (.head _)) (h2 q hq), Nat.lt_of_lt_of_le (h1 _ (.tail _ (.tail _ (List.mem_append_left _ (List.mem_append_right _ hI))))) (h2 q hq), Nat.lt_of_lt_of_le (h1 _ (.tail _ (.head _))) (h2 q hq)⟩
    · exact h.above q hq
end
theorem news_4 {h₀ h : Heap} {L : Addr} {a b c : Addr × Obj} {l : List (Addr × Obj)} (N : News h₀ L h (a :: b :: c :: l)) : News h₀ L h (b :: a :: c :: l) := fun q hq => N q (by
  simp only [List.mem_cons] at hq ⊢
  rcases hq with hq | hq | hq | hq <;> simp [hq])
theorem hits_n9 {w : World} {p : Program} {loose : List Str} {mean : ExcName → Option Value} {mg mb : Str → Option Value} {pk : Nat → Bool} {D I0 : Addr} {cds base : List (Addr × Obj)} {i : Nat} {its : List Value} {t2 : Array Value} {ex : List (Addr × Obj)}
    (h : HS w p loose mean mg mb pk D I0 cds base i its t2 ex) {x y : Obj} (h109 : (109 : Nat) < D) (hb : ∀ q ∈ base, q.1 ≠ 109 ∧ q.1 ≠ 102) : ∀ q ∈ (D, x) :: (102, y) :: (ex ++ base), q.1 ≠ 109 := fun q hq => by
  rcases List.mem_cons.mp hq with rfl | hq
  · exact Nat.ne_of_gt h109
  rcases List.mem_cons.mp hq with rfl | hq
  · exact (by decide : (102 : Nat) ≠ 109)
  rcases List.mem_append.mp hq with hq | hq
  · exact Nat.ne_of_gt (h.above q hq).2.2
  · exact (hb q hq).1
theorem loop_c {prog : Program} {w : World} {A : Around} {E : Value → Shared → Prop} {s : Shared} {h₀ : Heap} {env : Env} {x y : Str} {body : List Stmt} {Q : Flow → Shared → Prop} {m₀ : Str → Option Value} {news : List (Addr × Obj)}
    {r : Addr} {t₀ u₀ v₀ : Tok} {n : Nat} (stored : List Str) (lv : Nat → Value) (h0 : lv 0 = .none) (hh : A.handled = none) (F : Fr h₀ env.locals s.heap (fun z => if z = y then some .none else m₀ z)) (N : News h₀ env.locals s.heap news)
    (hr : IsRange s.heap r 0 (n : Int) 1 t₀ u₀ v₀) (hn : n < 2 ^ 62)
    (turn : ∀ I i t (u : Str → Option Value) h tk own, i < n → (∀ p ∈ news, p.1 < I) → (∀ p ∈ own, p.1 = I) → Fr h₀ env.locals h (fun z => if z = x then some (.int (i : Int) t) else if z = y then some (lv i) else if stored.contains z then u z else m₀ z) → News h₀ env.locals h (news ++ own) →
      wpAny (model prog w) A (execs body env) (TurnEnd h₀ env.locals I own (fun m₁ nx => (∃ u : Str → Option Value, m₁ = fun z => if z = y then some (lv (i + 1)) else if stored.contains z then u z else m₀ z) ∧ nx = news) { s with heap := h, toks := tk } Q) E { s with heap := h, toks := tk })
    (done : ∀ (u : Str → Option Value) h tk, Fr h₀ env.locals h (fun z => if z = y then some (lv n) else if stored.contains z then u z else m₀ z) → News h₀ env.locals h news → Q .next { s with heap := h, toks := tk }) :
    wpAny (model prog w) A (pyIter (.ref r)) (fun it s₂ => LoopAtV prog w A h₀ env x body Q E it s₂) E s := by
  refine loop_range (fun i m₁ nx => (∃ u : Str → Option Value, m₁ = fun z => if z = y then some (lv i) else if stored.contains z then u z else m₀ z) ∧ nx = news) hh F N hr hn ⟨⟨m₀, ?_⟩, rfl⟩ ?_ ?_
  · funext z; rw [h0]; split
    · rfl
    · split <;> rfl
  · rintro I i t m₁ news₁ h tk own hi ⟨⟨u, rfl⟩, rfl⟩ k1 _ k3 _ F1 N1
    exact turn I i t u h tk own hi k1 k3 F1 (news_swap N1)
  · rintro m₁ nx h tk ⟨⟨u, rfl⟩, rfl⟩ F1 N1
    exact done u h tk F1 N1
theorem c_end {h₀ h' : Heap} {L I : Addr} {own news : List (Addr × Obj)} {stored : List Str} {m₀ m' : Str → Option Value} {y : Str} {v : Value} {s₁ : Shared} {tk : Nat} {Q : Flow → Shared → Prop}
    (F : Fr h₀ L h' m') (hy : m' y = some v) (hm : ∀ z, stored.contains z = false → z ≠ y → m' z = m₀ z) (N : News h₀ L h' (news ++ own)) (k : ∀ p ∈ news, p.1 < I) :
    TurnEnd h₀ L I own (fun m₁ nx => (∃ u : Str → Option Value, m₁ = fun z => if z = y then some v else if stored.contains z then u z else m₀ z) ∧ nx = news) s₁ Q .next { s₁ with heap := h', toks := tk } := by
  refine TurnEnd.next F (news_swap N) (fun p hp => Nat.ne_of_lt (k p hp)) ⟨⟨m', ?_⟩, rfl⟩
  funext z
  by_cases h1 : z = y
  · simp [h1, hy]
  · cases h2 : stored.contains z with
    | true => simp [h1]
    | false => simp [h1, hm z h2 h1]
def FoldJ (stored : List Str) (m₀ : Str → Option Value) (m₁ : Str → Option Value) (nx : List (Addr × Obj)) : Prop :=
  (∃ u : Str → Option Value, m₁ = fun z => if stored.contains z then u z else m₀ z) ∧ ∃ t9 t2 cds, nx = (109, tabObj t9) :: (102, tabObj t2) :: cds ∧ St9 t9 cds ∧ St2 t2 cds ∧ ∀ p ∈ cds, p.1 ≠ 109 ∧ p.1 ≠ 102
theorem fold_end {w : World} {p : Program} {loose : List Str} {mean : ExcName → Option Value} {mg mb : Str → Option Value} {pk : Nat → Bool} {D I : Addr} {cds own : List (Addr × Obj)} {n : Nat} {its : List Value} {t2 t9 t59 : Array Value} {ex ext : List (Addr × Obj)}
    {h₀ h' : Heap} {L : Addr} {stored : List Str} {m₀ m' : Str → Option Value} {s₁ : Shared} {tk : Nat} {Q : Flow → Shared → Prop} {x y z : Obj}
    (F : Fr h₀ L h' m') (hm : ∀ z, stored.contains z = false → m' z = m₀ z) (N : News h₀ L h' ((D, x) :: (102, tabObj t2) :: (109, tabObj t59) :: (ext ++ (ex ++ (cds ++ own))))) (h5 : t59 = t9 ∨ St9 t59 ext) (h9 : St9 t9 cds)
    (hS : HS w p loose mean mg mb pk D I cds (cds ++ own) n its t2 ex) (hcd : ∀ q ∈ cds, q.1 ≠ 109 ∧ q.1 ≠ 102 ∧ q.1 ≠ I) (h109 : 109 ≠ I) (h102 : 102 ≠ I) (hIo : ∃ o, (I, o) ∈ own) (hA : Above2 ext ((D, y) :: (102, z) :: (ex ++ (cds ++ own)))) :
    TurnEnd h₀ L I own (FoldJ stored m₀) s₁ Q .next { s₁ with heap := h', toks := tk } := by
  obtain ⟨b, hb, hA1, hA2⟩ := hA
  obtain ⟨oI, hIo⟩ := hIo
  have hIb : I < b := hA1 _ (.tail _ (.tail _ (List.mem_append_right _ (List.mem_append_right _ hIo))))
  have up : ∀ q ∈ ext ++ (ex ++ cds), q.1 ≠ 109 ∧ q.1 ≠ 102 ∧ q.1 ≠ I := fun q hq => by
    rcases List.mem_append.mp hq with hq | hq
    · have h1 := hA2 q hq
      refine ⟨Nat.ne_of_gt (Nat.lt_of_lt_of_le hb h1), Nat.ne_of_gt (Nat.lt_of_lt_of_le (Nat.lt_trans (by decide) hb) h1), Nat.ne_of_gt (Nat.lt_of_lt_of_le hIb h1)⟩
    · rcases List.mem_append.mp hq with hq | hq
      · obtain ⟨_, a2, a3⟩ := hS.above q hq
        exact ⟨Nat.ne_of_gt a3, Nat.ne_of_gt (Nat.lt_trans (by decide) a3), Nat.ne_of_gt a2⟩
      · exact hcd q hq
  refine TurnEnd.next F (news' := (109, tabObj t59) :: (102, tabObj t2) :: (ext ++ (ex ++ cds))) (news_sub N fun q hq => ?_) ?_ ⟨⟨m', ?_⟩, t59, t2, ext ++ (ex ++ cds), rfl, ?_, ?_, fun q hq => ⟨(up q hq).1, (up q hq).2.1⟩⟩
  · simp only [List.mem_cons, List.mem_append] at hq ⊢
    rcases hq with hq | hq | hq | hq | hq | hq <;> simp [hq]
  · intro q hq
    rcases List.mem_cons.mp hq with rfl | hq
    · exact h109
    rcases List.mem_cons.mp hq with rfl | hq
    · exact h102
    exact (up q hq).2.2
  · funext z
    cases hz : stored.contains z with
    | true => simp
    | false => simp [hm z hz]
  · rcases h5 with rfl | h5
    · exact h9.mono fun q hq => List.mem_append_right _ (List.mem_append_right _ hq)
    · exact h5.mono fun q hq => List.mem_append_left _ hq
  · exact hS.st.mono fun q hq => List.mem_append_right _ hq
end Mine
end

section -- PL
open PySem PySem.W PyProof.Rows
namespace Mine
theorem off_PL : True := by (w_top off; trivial)
section
variable {its : List Value} {pk : Nat → Bool}
/-- what the list says about the places -/
def PkOf (its : List Value) (pk : Nat → Bool) : Prop := ∀ (k : Nat) v, its[k]? = some v → (v = .none ∧ pk k = false) ∨ ∃ f, v = .ref f ∧ pk k = true
def gr (pk : Nat → Bool) : Nat → Bool
  | 0 => pk 0
  | k + 1 => pk (k + 1) && !gr pk k
theorem next_spec : ∀ (r : List Value) (pos : Nat) (pk : Nat → Bool), (∀ (k : Nat) v, r[k]? = some v → (v = .none ∧ pk (pos + k) = false) ∨ ∃ f, v = .ref f ∧ pk (pos + k) = true) →
    (nextFrom r pos = none ∧ ∀ k, k < r.length → pk (pos + k) = false) ∨ ∃ i f, nextFrom r pos = some (pos + i, .ref f) ∧ r[i]? = some (.ref f) ∧ pk (pos + i) = true ∧ ∀ k, k < i → pk (pos + k) = false
  | [], _, _, _ => .inl ⟨rfl, fun k hk => nomatch hk⟩
  | v :: r, pos, pk, h => by
    rcases h 0 v rfl with ⟨rfl, h0⟩ | ⟨f, rfl, h0⟩
    · have ih := next_spec r (pos + 1) pk (fun k u hu => by
        have := h (k + 1) u (by simpa using hu)
        rwa [show pos + (k + 1) = pos + 1 + k by omega] at this)
      rcases ih with ⟨e, hk⟩ | ⟨i, f, e, hi, hp, hk⟩
      · refine .inl ⟨e, fun k hlt => ?_⟩
        cases k with
        | zero => exact h0
        | succ k => rw [show pos + (k + 1) = pos + 1 + k by omega]; exact hk k (by simpa using hlt)
      · refine .inr ⟨i + 1, f, ?_, by simpa using hi, ?_, fun k hlt => ?_⟩
        · show nextFrom r (pos + 1) = _
          rw [e, show pos + 1 + i = pos + (i + 1) by omega]
        · rwa [show pos + (i + 1) = pos + 1 + i by omega]
        · cases k with
          | zero => exact h0
          | succ k => rw [show pos + (k + 1) = pos + 1 + k by omega]; exact hk k (by omega)
    · exact .inr ⟨0, f, rfl, rfl, h0, fun k hk => nomatch hk⟩
theorem nextAt_spec (h : PkOf its pk) (pos : Nat) :
    (nextAt its pos = none ∧ ∀ k, pos ≤ k → k < its.length → pk k = false) ∨ ∃ i f, nextAt its pos = some (i, .ref f) ∧ its[i]? = some (.ref f) ∧ pos ≤ i ∧ pk i = true ∧ ∀ k, pos ≤ k → k < i → pk k = false := by
  rcases next_spec (its.drop pos) pos pk (fun k v hv => h (pos + k) v (by simpa [List.getElem?_drop] using hv)) with ⟨e, hk⟩ | ⟨i, f, e, hi, hp, hk⟩
  · refine .inl ⟨e, fun k h1 h2 => ?_⟩
    have := hk (k - pos) (by rw [List.length_drop]; omega)
    rwa [show pos + (k - pos) = k by omega] at this
  · refine .inr ⟨pos + i, f, e, by simpa [List.getElem?_drop] using hi, Nat.le_add_right _ _, hp, fun k h1 h2 => ?_⟩
    have := hk (k - pos) (by omega)
    rwa [show pos + (k - pos) = k by omega] at this
theorem gr_false_of {k : Nat} (h : pk k = false) : gr pk k = false := by cases k <;> simp [gr, h]
theorem gr_first {pos i : Nat} (hpos : pos = 0 ∨ gr pk (pos - 1) = false) (hi : pos ≤ i) (hp : pk i = true) (hk : ∀ k, pos ≤ k → k < i → pk k = false) : gr pk i = true := by
  cases i with
  | zero => exact hp
  | succ i =>
    have : gr pk i = false := by
      by_cases h : pos ≤ i
      · exact gr_false_of (hk i h (Nat.lt_succ_self _))
      · have e : pos = i + 1 := by omega
        rcases hpos with h0 | h0
        · omega
        · rw [e] at h0; exact h0
    simp [gr, hp, this]
theorem revGo_step (h : PkOf its pk) (c : Nat) (hc : 1 ≤ c) (hlen : c - 1 < its.length) : ∀ (fuel pos : Nat) (found : Value), its.length ≤ fuel + pos → (pos = 0 ∨ gr pk (pos - 1) = false) →
    (gr pk (c - 1) = true ∧ pos ≤ c - 1 → ∃ f, its[c - 1]? = some (.ref f) ∧ revGo its (c + 1) fuel pos found = .ref f) ∧ (¬ (gr pk (c - 1) = true ∧ pos ≤ c - 1) → revGo its (c + 1) fuel pos found = revGo its c fuel pos found)
  | 0, pos, found, hf, _ => ⟨fun ⟨_, h2⟩ => absurd hf (by omega), fun _ => rfl⟩
  | fuel + 1, pos, found, hf, hpos => by
    rcases nextAt_spec h pos with ⟨e, hk⟩ | ⟨i, f, e, hi, hle, hp, hk⟩
    · have hg : ¬ (gr pk (c - 1) = true ∧ pos ≤ c - 1) := fun ⟨h1, h2⟩ => by
        rw [gr_false_of (hk _ h2 hlen)] at h1; cases h1
      exact ⟨fun x => absurd x hg, fun _ => by rw [revGo, revGo, e]⟩
    · have hgi := gr_first hpos hle hp hk
      have hg1 : gr pk (i + 1) = false := by simp [gr, hgi]
      by_cases h1 : i + 2 ≤ c
      · have ih := revGo_step h c hc hlen fuel (i + 2) (.ref f) (by omega) (.inr hg1)
        have eqv : (gr pk (c - 1) = true ∧ pos ≤ c - 1) ↔ (gr pk (c - 1) = true ∧ i + 2 ≤ c - 1) := by
          constructor
          · rintro ⟨a, b⟩
            refine ⟨a, ?_⟩
            by_cases h2 : i + 2 ≤ c - 1
            · exact h2
            · have : c - 1 = i + 1 := by omega
              rw [this, hg1] at a; cases a
          · rintro ⟨a, b⟩; exact ⟨a, by omega⟩
        have e1 : revGo its (c + 1) (fuel + 1) pos found = revGo its (c + 1) fuel (i + 2) (.ref f) := by rw [revGo, e]; simp only [if_pos (show i + 2 ≤ c + 1 by omega)]
        have e2 : revGo its c (fuel + 1) pos found = revGo its c fuel (i + 2) (.ref f) := by rw [revGo, e]; simp only [if_pos h1]
        rw [e1, e2]
        exact ⟨fun x => ih.1 (eqv.mp x), fun x => ih.2 fun y => x (eqv.mpr y)⟩
      · by_cases h2 : i + 2 = c + 1
        · have hik : c - 1 = i := by omega
          have e1 : revGo its (c + 1) (fuel + 1) pos found = .ref f := by
            rw [revGo, e]
            simp only [if_pos (show i + 2 ≤ c + 1 by omega)]
            cases fuel with
            | zero => rfl
            | succ fuel =>
              rw [revGo]
              rcases nextAt_spec h (i + 2) with ⟨e', _⟩ | ⟨i', f', e', _, hle', _⟩
              · rw [e']
              · rw [e']; simp only [if_neg (show ¬ i' + 2 ≤ c + 1 by omega)]
          rw [hik]
          exact ⟨fun _ => ⟨f, hi, e1⟩, fun x => absurd ⟨hgi, hle⟩ x⟩
        · have hg : ¬ (gr pk (c - 1) = true ∧ pos ≤ c - 1) := fun ⟨a, b⟩ => by
            rw [gr_false_of (hk _ b (by omega))] at a; cases a
          refine ⟨fun x => absurd x hg, fun _ => ?_⟩
          rw [revGo, revGo, e]
          simp only [if_neg (show ¬ i + 2 ≤ c + 1 by omega), if_neg h1]
theorem rev_low (c : Nat) (h : PkOf its pk) (hc : c ≤ 1) : rev its c = .none := by
  unfold rev
  rw [revGo]
  rcases nextAt_spec h 0 with ⟨e, _⟩ | ⟨i, f, e, _⟩
  · rw [e]
  · rw [e]; simp only [if_neg (show ¬ i + 2 ≤ c by omega)]
theorem rev_step {c : Nat} (h : PkOf its pk) (hc : 1 ≤ c) (hlen : c - 1 < its.length) :
    (gr pk (c - 1) = true → ∃ f, its[c - 1]? = some (.ref f) ∧ rev its (c + 1) = .ref f) ∧ (gr pk (c - 1) = false → rev its (c + 1) = rev its c) := by
  have := revGo_step h c hc hlen (its.length + 1) 0 .none (by omega) (.inl rfl)
  exact ⟨fun x => this.1 ⟨x, Nat.zero_le _⟩, fun x => this.2 fun y => by rw [x] at y; cases y.1⟩
/-- along a run of pairs the greedy choice takes every other place -/
theorem gr_run {b : Nat} (hb : b = 0 ∨ pk (b - 1) = false) : ∀ m, (∀ k, b ≤ k → k ≤ b + m → pk k = true) → gr pk (b + m) = decide (m % 2 = 0)
  | 0, h => by
    have h0 := h b (Nat.le_refl _) (by omega)
    cases b with
    | zero => simpa [gr] using h0
    | succ b =>
      have : gr pk b = false := gr_false_of (by rcases hb with hb | hb; · omega
                                                · exact hb)
      simp [gr, h0, this]
  | m + 1, h => by
    have ih := gr_run hb m (fun k h1 h2 => h k h1 (by omega))
    have h0 := h (b + (m + 1)) (by omega) (Nat.le_refl _)
    show gr pk ((b + m) + 1) = _
    simp only [gr]
    rw [show b + m + 1 = b + (m + 1) by omega, h0, ih]
    rcases Nat.mod_two_eq_zero_or_one m with e | e <;> simp [e, Nat.add_mod]
end
end Mine
end

section -- PM
open PySem PySem.W PyProof.Rows
namespace Mine
theorem off_PM : True := by (w_top off; trivial)
theorem rev_at {its : List Value} {pk : Nat → Bool} {kp : Nat → Bool} {n c b : Nat} (h : PkOf its pk) (hn : its.length = n - 1) (hpk : ∀ k, k + 1 < n → pk k = (kp k && kp (k + 1))) (hc : c ≤ n) (hb : b ≤ c) (hrun : ∀ k, b ≤ k → k < c → kp k = true) (hstop : b = 0 ∨ kp (b - 1) = false) :
    ((c - b) % 2 = 0 ∧ b < c → ∃ f, its[c - 2]? = some (.ref f) ∧ rev its c = .ref f) ∧ (¬ ((c - b) % 2 = 0 ∧ b < c) → rev its c = if c = 0 then .none else rev its (c - 1)) := by
  by_cases h1 : c ≤ 1
  · refine ⟨fun ⟨x, y⟩ => by omega, fun _ => ?_⟩
    rw [rev_low c h h1]
    split
    · rfl
    · rw [rev_low (c - 1) h (by omega)]
  · have st := rev_step (c := c - 1) h (by omega) (by omega)
    rw [show c - 1 + 1 = c by omega, show c - 1 - 1 = c - 2 by omega] at st
    have hg : gr pk (c - 2) = decide ((c - b) % 2 = 0 ∧ b < c) := by
      by_cases h2 : b + 2 ≤ c
      · have := gr_run (pk := pk) (b := b) (by
          rcases hstop with h0 | h0
          · exact .inl h0
          · by_cases hb0 : b = 0
            · exact .inl hb0
            · right; rw [hpk _ (by omega), h0]; rfl) (c - 2 - b) (fun k k1 k2 => by
            rw [hpk k (by omega), hrun k k1 (by omega), hrun (k + 1) (by omega) (by omega)]; rfl)
        rw [show b + (c - 2 - b) = c - 2 by omega] at this
        rw [this]
        have e : ((c - 2 - b) % 2 = 0) = ((c - b) % 2 = 0 ∧ b < c) := propext ⟨fun x => ⟨by omega, by omega⟩, fun x => by omega⟩
        simp only [e]
      · have hf : gr pk (c - 2) = false := by
          apply gr_false_of
          rw [hpk _ (by omega)]
          rcases hstop with h0 | h0
          · omega
          · by_cases h3 : b = c
            · rw [show c - 2 + 1 = b - 1 by omega, h0, Bool.and_false]
            · rw [show c - 2 = b - 1 by omega, h0]; rfl
        rw [hf]
        have : ¬ ((c - b) % 2 = 0 ∧ b < c) := by omega
        simp only [this, decide_false]
    refine ⟨fun x => st.1 (by rw [hg]; exact decide_eq_true x), fun x => ?_⟩
    rw [if_neg (by omega)]
    exact st.2 (by rw [hg]; exact decide_eq_false x)
/-- the begin of the run of p that ends l -/
def bg (p : Nat → Bool) (l : List Nat) : Nat := l.length - (l.reverse.takeWhile p).length
theorem bg_le (p : Nat → Bool) (l : List Nat) : bg p l ≤ l.length := Nat.sub_le _ _
theorem tw_len (p : Nat → Bool) : ∀ l : List Nat, (l.takeWhile p).length ≤ l.length
  | [] => Nat.le_refl _
  | a :: r => by
    have := tw_len p r
    rw [List.takeWhile_cons]; split
    · simp only [List.length_cons]; omega
    · simp
theorem tw_all (p : Nat → Bool) : ∀ (l : List Nat) (k : Nat), k < (l.takeWhile p).length → p (l.getD k 0) = true
  | [], k, h => nomatch h
  | a :: r, k, h => by
    rw [List.takeWhile_cons] at h
    split at h
    · rename_i ha
      cases k with
      | zero => simpa using ha
      | succ k => simpa using tw_all p r k (by simpa using h)
    · exact nomatch h
theorem tw_stop (p : Nat → Bool) : ∀ (l : List Nat), (l.takeWhile p).length < l.length → p (l.getD (l.takeWhile p).length 0) = false
  | [], h => nomatch h
  | a :: r, h => by
    rw [List.takeWhile_cons] at h ⊢
    split
    · rename_i ha
      rw [if_pos ha] at h
      simpa using tw_stop p r (by simpa using h)
    · rename_i ha
      simpa using ha
theorem rev_getD (l : List Nat) (k : Nat) (h : k < l.length) : l.reverse.getD k 0 = l.getD (l.length - 1 - k) 0 := by
  simp only [List.getD_eq_getElem?_getD]
  rw [List.getElem?_reverse h]
theorem bg_run (p : Nat → Bool) (l : List Nat) (k : Nat) (h1 : bg p l ≤ k) (h2 : k < l.length) : p (l.getD k 0) = true := by
  have hl := tw_len p l.reverse
  rw [List.length_reverse] at hl
  have := tw_all p l.reverse (l.length - 1 - k) (by unfold bg at h1; omega)
  rwa [rev_getD l _ (by omega), show l.length - 1 - (l.length - 1 - k) = k by omega] at this
theorem bg_stop (p : Nat → Bool) (l : List Nat) : bg p l = 0 ∨ p (l.getD (bg p l - 1) 0) = false := by
  have hl := tw_len p l.reverse
  rw [List.length_reverse] at hl
  by_cases h : (l.reverse.takeWhile p).length < l.length
  · right
    have := tw_stop p l.reverse (by rwa [List.length_reverse])
    rw [rev_getD l _ h] at this
    unfold bg
    rwa [show l.length - (l.reverse.takeWhile p).length - 1 = l.length - 1 - (l.reverse.takeWhile p).length by omega]
  · left; unfold bg; omega
def kn (fo : Bool) (c : Nat) : Bool := (48 ≤ c && c ≤ 57) || (65 ≤ c && c ≤ 70) || (fo && 97 ≤ c && c ≤ 102)
theorem kn_known {fo : Bool} {c : Nat} (h : kn fo c = true) : known c = true := by
  cases fo <;> simp [kn, known] at h ⊢ <;> omega
def knownS (fo : Bool) : Str := if fo then Str.ofString "0123456789ABCDEF" ++ Str.ofString "abcdef" else Str.ofString "0123456789ABCDEF"
theorem kn_set : ∀ (fo : Bool) (c : Fin 128), (knownS fo).cps.contains c.1 = kn fo c.1 := by decide +kernel
end Mine
end

section -- PN
open PySem PySem.W PyProof.Rows
namespace Mine
theorem off_PN : True := by (w_top off; trivial)
theorem kn_list {fo : Bool} {c : Nat} (h : c < 128) : (knownS fo).cps.contains c = kn fo c := kn_set fo ⟨c, h⟩
theorem tw_congr {p q : Nat → Bool} : ∀ {l : List Nat}, (∀ c ∈ l, p c = q c) → l.takeWhile p = l.takeWhile q
  | [], _ => rfl
  | a :: r, h => by
    have e := h a (.head _)
    rw [List.takeWhile_cons, List.takeWhile_cons, e, tw_congr fun c hc => h c (.tail _ hc)]
theorem rstrip_len {fo : Bool} {x : Str} (hx : ∀ c ∈ x.cps.toList, c < 128) : (Txt.rstripChars x (knownS fo)).length = bg (kn fo) x.cps.toList := by
  have hhi : stripHi (knownS fo).cps.contains true x 0 = bg (kn fo) x.cps.toList := by
    unfold stripHi bg
    simp only [if_true, List.drop_zero]
    rw [tw_congr (q := kn fo) fun c hc => kn_list (hx c (List.mem_reverse.mp hc))]
    rfl
  have hlo : stripLo (knownS fo).cps.contains false x = 0 := rfl
  unfold Txt.rstripChars Txt.stripBy
  split
  · rename_i hs
    unfold stripSame at hs
    rw [hlo, hhi] at hs
    simp at hs
    exact hs.symm
  · unfold PySem.stripped
    rw [hlo, hhi]
    have hle := bg_le (kn fo) x.cps.toList
    rw [strSub_mk]
    show (List.toArray _).size = _
    rw [List.size_toArray, List.drop_zero, List.length_take]
    omega
def sl (r : Str) (a b : Nat) : Str := ⟨((r.cps.toList.drop a).take (b - a)).toArray⟩
theorem slice_ab {r : Str} {a b : Nat} (h1 : a ≤ b) (h2 : b ≤ r.length) : Txt.slice r (some (a : Int)) (some (b : Int)) = sl r a b := by
  have := eq_of_beq (slice_closesL (x := r) (i := (a : Int)) (j := (b : Int)) (by omega) (by omega) (by omega))
  rw [this]
  unfold sl
  rw [Int.toNat_natCast, show ((b : Int) - (a : Int)).toNat = b - a by omega]
theorem slice_0b {r : Str} {b : Nat} (h2 : b ≤ r.length) : Txt.slice r none (some (b : Int)) = sl r 0 b := by
  have := eq_of_beq (slice_closes_toL (x := r) (j := (b : Int)) (by omega) (by omega))
  rw [this]
  unfold sl
  rw [show (0 : Int).toNat = 0 from rfl, show ((b : Int) - 0).toNat = b - 0 by omega]
theorem sl_size {r : Str} {a b : Nat} (h1 : a ≤ b) (h2 : b ≤ r.length) : (sl r a b).cps.size = b - a := by
  have : r.length = r.cps.toList.length := by simp [Str.length]
  unfold sl
  rw [List.size_toArray, List.length_take, List.length_drop]
  omega
theorem sl_mem {r : Str} {a b c : Nat} (h : c ∈ (sl r a b).cps.toList) : c ∈ r.cps.toList := List.mem_of_mem_drop (List.mem_of_mem_take h)
theorem sl_getD {r : Str} {a b k : Nat} (h : k < b - a) : (sl r a b).cps.getD k 0 = r.cps.toList.getD (a + k) 0 := by
  have e : (sl r a b).cps.getD k 0 = ((r.cps.toList.drop a).take (b - a)).getD k 0 := by
    unfold sl
    simp [Array.getD_eq_getD_getElem?, List.getD_eq_getElem?_getD]
  rw [e]
  simp only [List.getD_eq_getElem?_getD]
  rw [List.getElem?_take_of_lt h, List.getElem?_drop]
theorem up_all : ∀ c : Fin 128, foreign (c.1.toUInt8.toNat) = !kn false c.1 ∧ foreign ((Builtin.Bytes.toUpper c.1.toUInt8).toNat) = !kn true c.1 ∧ hvI ((c.1.toUInt8.toNat : Nat) : Int) = hvI (c.1 : Int) ∧ (kn true c.1 = true → hvI (((Builtin.Bytes.toUpper c.1.toUInt8).toNat : Nat) : Int) = hvI (c.1 : Int)) := by decide +kernel
def chOf (fo : Bool) (c : Nat) : UInt8 := if fo then Builtin.Bytes.toUpper c.toUInt8 else c.toUInt8
theorem rdB_list (fo : Bool) (x : Str) : (rdB fo x).toList = x.cps.toList.map (chOf fo) := by
  cases fo with
  | false => simp [rdB, enc, chOf]
  | true =>
    simp only [rdB, if_true, up, enc, Array.toList_map, List.map_map]
    rfl
theorem ch_foreign {fo : Bool} {c : Nat} (h : c < 128) : foreign (chOf fo c).toNat = !kn fo c := by
  cases fo
  · exact (up_all ⟨c, h⟩).1
  · exact (up_all ⟨c, h⟩).2.1
theorem ch_hv {fo : Bool} {c : Nat} (h : c < 128) (hk : kn fo c = true) : hvI (((chOf fo c).toNat : Nat) : Int) = hvI (c : Int) := by
  cases fo
  · exact (up_all ⟨c, h⟩).2.2.1
  · exact (up_all ⟨c, h⟩).2.2.2 hk
theorem any_congr {p q : Nat → Bool} : ∀ {l : List Nat}, (∀ c ∈ l, p c = q c) → l.any p = l.any q
  | [], _ => rfl
  | a :: r, h => by rw [List.any_cons, List.any_cons, h a (.head _), any_congr fun c hc => h c (.tail _ hc)]
theorem frn_eq {fo : Bool} {x : Str} (hx : ∀ c ∈ x.cps.toList, c < 128) : frn (rdB fo x) = x.cps.toList.any (fun c => !kn fo c) := by
  unfold frn
  rw [Array.toList_map, rdB_list, List.map_map, List.any_map]
  exact any_congr fun c hc => ch_foreign (hx c hc)
theorem rdB_size (fo : Bool) (x : Str) : (rdB fo x).size = x.cps.size := by
  have := congrArg List.length (rdB_list fo x)
  simpa using this
theorem pairsI_range : ∀ (n : Nat) (l : List Int), l.length = 2 * n → pairsI l = (List.range n).map fun i => l.getD (2 * i) 0 * 16 + l.getD (2 * i + 1) 0
  | 0, [], _ => rfl
  | n + 1, a :: b :: r, h => by
    rw [List.range_succ_eq_map, List.map_cons, List.map_map]
    show (a * 16 + b) :: pairsI r = _
    rw [pairsI_range n r (by simpa [Nat.mul_succ] using h)]
    rfl
theorem octs_dec {fo : Bool} {x : Str} (hx : ∀ c ∈ x.cps.toList, c < 128) (hk : ∀ c ∈ x.cps.toList, kn fo c = true) (he : x.cps.size % 2 = 0) : octs x = dec (rdB fo x) := by
  unfold octs dec
  have hl : ((rdB fo x).toList.map fun c => hvI (c.toNat : Int)) = x.cps.toList.map fun (c : Nat) => hvI (c : Int) := by
    rw [rdB_list, List.map_map]
    exact List.map_congr_left fun c hc => ch_hv (hx c hc) (hk c hc)
  rw [hl, pairsI_range (x.cps.size / 2) _ (by simp; omega)]
  congr 2
  refine List.map_congr_left fun i hi => ?_
  have hi := List.mem_range.mp hi
  have g : ∀ j, j < x.cps.size → (x.cps.toList.map fun (c : Nat) => hvI (c : Int)).getD j 0 = hvI ((x.cps.getD j 0 : Nat) : Int) := fun j hj => by
    simp [List.getD_eq_getElem?_getD, hj]
  rw [g _ (by omega), g _ (by omega)]
theorem mem_getD {l : List Nat} {c : Nat} (h : c ∈ l) : ∃ k, k < l.length ∧ l.getD k 0 = c := by
  obtain ⟨k, hk, e⟩ := List.mem_iff_getElem.mp h
  exact ⟨k, hk, by simp [List.getD_eq_getElem?_getD, hk, e]⟩
theorem sl_all {r : Str} {a b : Nat} {p : Nat → Bool} (h1 : a ≤ b) (h2 : b ≤ r.length) (h : ∀ k, a ≤ k → k < b → p (r.cps.toList.getD k 0) = true) : ∀ c ∈ (sl r a b).cps.toList, p c = true := by
  intro c hc
  obtain ⟨k, hk, e⟩ := mem_getD hc
  have hs := sl_size h1 h2
  have hk' : k < b - a := by rw [← hs]; simpa using hk
  have e2 := sl_getD (r := r) hk'
  have e3 : (sl r a b).cps.toList.getD k 0 = (sl r a b).cps.getD k 0 := by simp [Array.getD_eq_getD_getElem?, List.getD_eq_getElem?_getD]
  rw [← e, e3, e2]
  exact h _ (by omega) (by omega)
theorem frn_run {fo : Bool} {r : Str} {a b : Nat} (hr : ∀ c ∈ r.cps.toList, c < 128) (h1 : a ≤ b) (h2 : b ≤ r.length) (h : ∀ k, a ≤ k → k < b → kn fo (r.cps.toList.getD k 0) = true) : frn (rdB fo (sl r a b)) = false := by
  rw [frn_eq fun c hc => hr c (sl_mem hc), List.any_eq_false]
  intro c hc
  simp [sl_all h1 h2 h c hc]
theorem frn_at {fo : Bool} {r : Str} {a b k : Nat} (hr : ∀ c ∈ r.cps.toList, c < 128) (h1 : a ≤ k) (h2 : k < b) (h3 : b ≤ r.length) (h : kn fo (r.cps.toList.getD k 0) = false) : frn (rdB fo (sl r a b)) = true := by
  rw [frn_eq fun c hc => hr c (sl_mem hc), List.any_eq_true]
  have hs := sl_size (r := r) (a := a) (b := b) (by omega) h3
  refine ⟨(sl r a b).cps.getD (k - a) 0, getD_mem (by rw [hs]; omega), ?_⟩
  rw [sl_getD (by omega), show a + (k - a) = k by omega, h]; rfl
def pkOf (fo : Bool) (r : Str) (k : Nat) : Bool := !frn (rdB fo (Txt.slice r (some (k : Int)) (some ((k : Int) + 2))))
theorem slice2 {r : Str} {k : Nat} (h : k + 1 < r.length) : Txt.slice r (some (k : Int)) (some ((k : Int) + 2)) = sl r k (k + 2) := by
  have := slice_ab (r := r) (a := k) (b := k + 2) (by omega) (by omega)
  rw [← this]
  congr 2
theorem pkOf_eq {fo : Bool} {r : Str} {k : Nat} (hr : ∀ c ∈ r.cps.toList, c < 128) (h : k + 1 < r.length) : pkOf fo r k = (kn fo (r.cps.toList.getD k 0) && kn fo (r.cps.toList.getD (k + 1) 0)) := by
  unfold pkOf
  rw [slice2 h]
  cases h1 : kn fo (r.cps.toList.getD k 0) with
  | false => rw [frn_at hr (Nat.le_refl k) (by omega) (by omega) h1]; rfl
  | true =>
    cases h2 : kn fo (r.cps.toList.getD (k + 1) 0) with
    | false => rw [frn_at hr (Nat.le_succ k) (by omega) (by omega) h2]; rfl
    | true =>
      rw [frn_run hr (by omega) (by omega) fun j j1 j2 => by
        rcases (show j = k ∨ j = k + 1 by omega) with rfl | rfl
        · exact h1
        · exact h2]
      rfl
/-- where the run that ends before c begins -/
def bgn (fo : Bool) (r : Str) (c : Nat) : Nat := bg (kn fo) (sl r 0 c).cps.toList
section
variable {fo : Bool} {r : Str} {c : Nat} {v : Value}
theorem bgn_le (hc : c ≤ r.length) : bgn fo r c ≤ c := by
  have := bg_le (kn fo) (sl r 0 c).cps.toList
  have hs := sl_size (r := r) (Nat.zero_le c) hc
  unfold bgn; simp at this; omega
theorem sl0_getD {k : Nat} (h : k < c) : (sl r 0 c).cps.toList.getD k 0 = r.cps.toList.getD k 0 := by
  have e3 : (sl r 0 c).cps.toList.getD k 0 = (sl r 0 c).cps.getD k 0 := by simp [Array.getD_eq_getD_getElem?, List.getD_eq_getElem?_getD]
  rw [e3, sl_getD (by omega), Nat.zero_add]
theorem bgn_run (hc : c ≤ r.length) : ∀ k, bgn fo r c ≤ k → k < c → kn fo (r.cps.toList.getD k 0) = true := fun k h1 h2 => by
  have hs := sl_size (r := r) (Nat.zero_le c) hc
  have := bg_run (kn fo) (sl r 0 c).cps.toList k h1 (by simp; omega)
  rwa [sl0_getD h2] at this
theorem bgn_stop (hc : c ≤ r.length) : bgn fo r c = 0 ∨ kn fo (r.cps.toList.getD (bgn fo r c - 1) 0) = false := by
  rcases bg_stop (kn fo) (sl r 0 c).cps.toList with h | h
  · exact .inl h
  · by_cases h0 : bgn fo r c = 0
    · exact .inl h0
    · right
      have := bgn_le (fo := fo) hc
      rwa [sl0_getD (by unfold bgn at *; omega)] at h
theorem bgn_len (hr : ∀ c ∈ r.cps.toList, c < 128) (hc : c ≤ r.length) : (Txt.rstripChars (Txt.slice r none (some (c : Int))) (knownS fo)).length = bgn fo r c := by
  rw [slice_0b hc, rstrip_len fun c hc => hr c (sl_mem hc)]; rfl
theorem ans_even (hr : ∀ c ∈ r.cps.toList, c < 128) (hc : c ≤ r.length) (he : (c - bgn fo r c) % 2 = 0) (h : ReadAns fo (sl r (bgn fo r c) c) v) : ∃ t, v = .bytes (octs (sl r (bgn fo r c) c)) t := by
  have hb := bgn_le (fo := fo) hc
  have hs := sl_size (r := r) hb hc
  unfold ReadAns at h
  rw [frn_run hr hb hc (bgn_run hc), if_neg (by decide), rdB_size, hs, if_neg (by omega)] at h
  obtain ⟨t, e⟩ := h
  exact ⟨t, by rw [e, octs_dec (fun c hc => hr c (sl_mem hc)) (sl_all hb hc (bgn_run hc)) (by rw [hs]; exact he)]⟩
theorem ans_odd (hr : ∀ c ∈ r.cps.toList, c < 128) (hc : c ≤ r.length) (he : ¬ (c - bgn fo r c) % 2 = 0) (h : ReadAns fo (sl r (bgn fo r c) c) v) : ∃ t, v = .str (Str.ofString "odd") t := by
  have hb := bgn_le (fo := fo) hc
  have hs := sl_size (r := r) hb hc
  unfold ReadAns at h
  rw [frn_run hr hb hc (bgn_run hc), if_neg (by decide), rdB_size, hs, if_pos (by omega)] at h
  exact h
theorem ans_foreign (hr : ∀ c ∈ r.cps.toList, c < 128) (hc : c ≤ r.length) (hb : 0 < bgn fo r c) (h : ReadAns fo (sl r 0 c) v) : ∃ t, v = .str (Str.ofString "foreign") t := by
  unfold ReadAns at h
  rcases bgn_stop (fo := fo) hc with h0 | h0
  · omega
  · have := bgn_le (fo := fo) hc
    rw [frn_at hr (Nat.zero_le _) (by omega) hc h0, if_pos rfl] at h
    exact h
/-- the law of the last hit -/
theorem last_law {its : List Value} (hr : ∀ c ∈ r.cps.toList, c < 128) (h : PkOf its (pkOf fo r)) (hn : its.length = r.length - 1) (hc : c ≤ r.length) :
    ((c - bgn fo r c) % 2 = 0 ∧ bgn fo r c < c → ∃ f, its[c - 2]? = some (.ref f) ∧ rev its c = .ref f) ∧ (¬ ((c - bgn fo r c) % 2 = 0 ∧ bgn fo r c < c) → rev its c = if c = 0 then .none else rev its (c - 1)) :=
  rev_at (kp := fun k => kn fo (r.cps.toList.getD k 0)) h hn (fun k hk => pkOf_eq hr hk) hc (bgn_le hc) (bgn_run hc) (bgn_stop hc)
end
theorem read_cases {fo : Bool} {r : Str} {i : Nat} {v : Value} (h : i + 1 < r.length) (ans : ReadAns fo (Txt.slice r (some (i : Int)) (some ((i : Int) + 2))) v) :
    (pkOf fo r i = false ∧ ∃ t, v = .str (Str.ofString "foreign") t) ∨ (pkOf fo r i = true ∧ ∃ b t, v = .bytes b t) := by
  unfold ReadAns at ans
  unfold pkOf
  cases hf : frn (rdB fo (Txt.slice r (some (i : Int)) (some ((i : Int) + 2)))) with
  | true =>
    rw [hf, if_pos rfl] at ans
    exact .inl ⟨rfl, ans⟩
  | false =>
    rw [hf, if_neg (by decide), rdB_size, slice2 h, sl_size (by omega) (by omega), if_neg (by omega)] at ans
    obtain ⟨t, e⟩ := ans
    exact .inr ⟨rfl, _, t, e⟩
theorem slice2_lt {r : Str} {i : Nat} (hr : ∀ c ∈ r.cps.toList, c < 128) (h : i + 1 < r.length) : ∀ c ∈ (Txt.slice r (some (i : Int)) (some ((i : Int) + 2))).cps.toList, c < 128 := by
  rw [slice2 h]; exact fun c hc => hr c (sl_mem hc)
section
variable {fo : Bool} {r : Str} {c : Nat} {v : Value}
theorem even_nat {b c : Nat} (h : b ≤ c) : (((c : Int) - (b : Int)).fmod 2 = 0) ↔ (c - b) % 2 = 0 := by
  rw [Int.fmod_eq_emod_of_nonneg _ (by decide)]
  omega
theorem slice_bc (hc : c ≤ r.length) : Txt.slice r (some ((bgn fo r c : Nat) : Int)) (some (c : Int)) = sl r (bgn fo r c) c := slice_ab (bgn_le hc) hc
theorem ans_even' (hr : ∀ c ∈ r.cps.toList, c < 128) (hc : c ≤ r.length) (he : ((c : Int) - ((bgn fo r c : Nat) : Int)).fmod 2 = 0) (h : ReadAns fo (Txt.slice r (some ((bgn fo r c : Nat) : Int)) (some (c : Int))) v) : ∃ t, v = .bytes (octs (Txt.slice r (some ((bgn fo r c : Nat) : Int)) (some (c : Int)))) t := by
  rw [slice_bc hc] at h ⊢
  exact ans_even hr hc ((even_nat (bgn_le hc)).mp he) h
theorem ans_odd' (hr : ∀ c ∈ r.cps.toList, c < 128) (hc : c ≤ r.length) (he : ¬ ((c : Int) - ((bgn fo r c : Nat) : Int)).fmod 2 = 0) (h : ReadAns fo (Txt.slice r (some ((bgn fo r c : Nat) : Int)) (some (c : Int))) v) : ∃ t, v = .str (Str.ofString "odd") t := by
  rw [slice_bc hc] at h
  exact ans_odd hr hc (fun x => he ((even_nat (bgn_le hc)).mpr x)) h
theorem ans_foreign' (hr : ∀ c ∈ r.cps.toList, c < 128) (hc : c ≤ r.length) (hb : (0 : Int) < ((bgn fo r c : Nat) : Int)) (h : ReadAns fo (Txt.slice r none (some (c : Int))) v) : ∃ t, v = .str (Str.ofString "foreign") t := by
  rw [slice_0b hc] at h
  exact ans_foreign hr hc (by omega) h
theorem bc_lt (hr : ∀ c ∈ r.cps.toList, c < 128) (hc : c ≤ r.length) : ∀ d ∈ (Txt.slice r (some ((bgn fo r c : Nat) : Int)) (some (c : Int))).cps.toList, d < 128 := by
  rw [slice_bc hc]; exact fun d hd => hr d (sl_mem hd)
theorem c0_lt (hr : ∀ c ∈ r.cps.toList, c < 128) (hc : c ≤ r.length) : ∀ d ∈ (Txt.slice r none (some (c : Int))).cps.toList, d < 128 := by
  rw [slice_0b hc]; exact fun d hd => hr d (sl_mem hd)
theorem bc_known (hc : c ≤ r.length) : ∀ d ∈ (Txt.slice r (some ((bgn fo r c : Nat) : Int)) (some (c : Int))).cps.toList, known d = true := by
  rw [slice_bc hc]; exact fun d hd => kn_known (sl_all (bgn_le hc) hc (bgn_run hc) d hd)
theorem bc_even (hc : c ≤ r.length) (he : ((c : Int) - ((bgn fo r c : Nat) : Int)).fmod 2 = 0) : (Txt.slice r (some ((bgn fo r c : Nat) : Int)) (some (c : Int))).cps.size % 2 = 0 := by
  rw [slice_bc hc, sl_size (bgn_le hc) hc]; exact (even_nat (bgn_le hc)).mp he
theorem rev_form {w : World} {p : Program} {loose : List Str} {mean : ExcName → Option Value} {mg mb : Str → Option Value} {l : List (Addr × Obj)} {its : List Value} (hI : HitsOk w p loose mean mg mb l its) (col : Nat) : ∀ (fuel pos : Nat) (found : Value), (found = .none ∨ ∃ f, found = .ref f) → (revGo its col fuel pos found = .none ∨ ∃ f, revGo its col fuel pos found = .ref f)
  | 0, _, _, h => h
  | fuel + 1, pos, found, h => by
    rw [revGo]
    rcases next_cases hI pos with ⟨e, _⟩ | ⟨i, f, e, _⟩
    · rw [e]; exact h
    · rw [e]
      dsimp only
      split
      · exact rev_form hI col fuel (i + 2) (.ref f) (.inr ⟨f, rfl⟩)
      · exact h
def lastV (its : List Value) (c : Nat) : Value := if c = 0 then .none else rev its (c - 1)
theorem lastV_succ (its : List Value) (c : Nat) : lastV its (c + 1) = rev its c := rfl
end
section
variable {prog : Program} {w : World} {A : Around} {E : Value → Shared → Prop} {s : Shared} {Q : Value → Shared → Prop}
theorem len_bgn {fo : Bool} {r : Str} {c : Nat} {t : Tok} (hr : ∀ c ∈ r.cps.toList, c < 128) (hc : c ≤ r.length) (hz : r.length ≤ 10) (h : Q (.int ((bgn fo r c : Nat) : Int) (s.toks + 1)) { s with toks := s.toks + 1 + 1 }) :
    wpAny (model prog w) A (call (.builtin "len") [.str (Txt.rstripChars (Txt.slice r none (some (c : Int))) (knownS fo)) t]) Q E s := by
  have e := bgn_len (fo := fo) hr hc
  have hb := bgn_le (fo := fo) hc
  refine P.len_str ?_ ?_
  · rw [e]; omega
  · rw [e]; exact h
end
theorem HOk.pk {w : World} {p : Program} {loose : List Str} {mean : ExcName → Option Value} {mg mb : Str → Option Value} {pk : Nat → Bool} {l : List (Addr × Obj)} {its : List Value} (x : HOk w p loose mean mg mb pk l its) : PkOf its pk :=
  fun i v hv => (x i v hv).imp id fun ⟨f, e, _, hp⟩ => ⟨f, e, hp⟩
theorem slice_le10 {r : Str} {l u : Option Int} (h : r.length ≤ 10) : (Txt.slice r l u).cps.size ≤ 1000 := Nat.le_trans (Txt.slice_le r l u) (by omega)
theorem sub_c {a b c : Addr × Obj} {e l o : List (Addr × Obj)} : ∀ q ∈ e ++ a :: b :: l, q ∈ a :: b :: c :: (e ++ l ++ o) := fun q hq => by
  simp only [List.mem_append, List.mem_cons] at hq ⊢
  rcases hq with hq | hq | hq | hq <;> simp [hq]
theorem HOk.of_prog {w : World} {p : Program} {loose : List Str} {mean : ExcName → Option Value} {mg mb : Str → Option Value} {pk : Nat → Bool} {l e : List (Addr × Obj)} {a b : Addr × Obj} {its : List Value} {f fs : Addr} (x : HOk w p loose mean mg mb pk l its) (_ : ProgIn (e ++ a :: b :: l) f fs) : HOk w p loose mean mg mb pk (e ++ a :: b :: l) its :=
  x.mono fun q hq => List.mem_append_right _ (.tail _ (.tail _ hq))
end Mine
end

section -- LW
open PySem PySem.W PyProof.Rows
set_option maxRecDepth 100000
open Mine
namespace Mine
theorem off_LW : True := by (w_top off; trivial)
def MidN (h₀ : Heap) (L : Addr) (m₀ : Str → Option Value) (s₁ : Shared) (fl : Flow) (s' : Shared) : Prop :=
  fl = .next ∧ ∃ nl its ns h tk, s' = { s₁ with heap := h, toks := tk } ∧ Fr h₀ L h (fun y => if y = Str.ofString "numbers" then some (.ref nl) else m₀ y) ∧
    News h₀ L h [(nl, W.listOf (List.toArray its) 0), (109, tabObj #[]), (102, tabObj #[])] ∧ IntsAre its ns ∧ 1 ≤ ns.length ∧ ns.length ≤ 10
theorem MidN.mk {h₀ : Heap} {L : Addr} {m₀ : Str → Option Value} {s₁ : Shared} {nl : Addr} {its : List Value} {ns : List Int} {h : Heap} {tk : Nat} (F : Fr h₀ L h (fun y => if y = Str.ofString "numbers" then some (.ref nl) else m₀ y))
    (N : News h₀ L h [(nl, W.listOf (List.toArray its) 0), (109, tabObj #[]), (102, tabObj #[])]) (hi : IntsAre its ns) (h1 : 1 ≤ ns.length) (h2 : ns.length ≤ 10) : MidN h₀ L m₀ s₁ .next { s₁ with heap := h, toks := tk } :=
  ⟨rfl, nl, its, ns, h, tk, rfl, F, N, hi, h1, h2⟩
theorem MidN.use {M : Model} {A : Around} {E : Value → Shared → Prop} {s : Shared} {c : Sem Flow} {Q : Flow → Shared → Prop} {h₀ : Heap} {L : Addr} {m₀ : Str → Option Value} (F : Fr h₀ L s.heap m₀) (h : wpAny M A c (MidN h₀ L m₀ s) E s)
    (k : ∀ nl its ns h tk, Fr h₀ L h (fun y => if y = Str.ofString "numbers" then some (.ref nl) else m₀ y) → News h₀ L h [(nl, W.listOf (List.toArray its) 0), (109, tabObj #[]), (102, tabObj #[])] → IntsAre its ns → 1 ≤ ns.length → ns.length ≤ 10 → Q .next { s with heap := h, toks := tk }) :
    wpAny M A c Q E s :=
  wpAny_mono h (fun fl s' ⟨e, nl, its, ns, h, tk, es, F, N, hi, h1, h2⟩ => by rw [e, es]; exact k nl its ns h tk F N hi h1 h2) fun _ _ e => e
theorem charAt_lt {S : Str} (h : ∀ c ∈ S.cps.toList, c < 128) (k : Int) : (Txt.charAt S k).getD 0 < 128 := by
  unfold Txt.charAt
  cases hk : seqIndex? k S.length with
  | none => simp
  | some j =>
    simp only [Option.bind_some]
    cases hj : S.cps[j]? with
    | none => simp
    | some c =>
      simp only [Option.getD_some]
      exact h c (by rw [← Array.getElem?_toList] at hj; exact List.mem_of_getElem? hj)
theorem row_ok {r S : Str} {i : Nat} (h1 : r.cps.size = i) (h2 : ∀ c ∈ r.cps.toList, c < 128) (hS : ∀ c ∈ S.cps.toList, c < 128) (k : Int) : (r ++ Txt.item S k).cps.size = i + 1 ∧ ∀ c ∈ (r ++ Txt.item S k).cps.toList, c < 128 := by
  have e : (r ++ Txt.item S k).cps = r.cps ++ #[(Txt.charAt S k).getD 0] := rfl
  rw [e]
  refine ⟨by rw [Array.size_append, h1]; rfl, fun c hc => ?_⟩
  rw [Array.toList_append] at hc
  rcases List.mem_append.mp hc with hc | hc
  · exact h2 c hc
  · have : c = (Txt.charAt S k).getD 0 := by simpa using hc
    rw [this]; exact charAt_lt hS k
theorem with_toksQ {α : Type} {M : Model} {A : Around} {s : Shared} {t : Sem α} {Q : α → Shared → Prop} {E : Value → Shared → Prop} {n : Nat} (hn : n ≤ s.toks) (h : wpAny M A t (fun a s' => n ≤ s'.toks → Q a s') E s) : wpAny M A t Q E s :=
  wpAny_mono (wpAny_toks_of hn h) (fun _ _ x => x.2 x.1) (fun _ _ x => x.2)
theorem TurnEnd.row {h₀ h' : Heap} {L I : Addr} {own news : List (Addr × Obj)} {Pr : Str → Prop} {s₁ : Shared} {tk : Nat} {Q : Flow → Shared → Prop} {x y r : Str} {t : Tok} {v : Value} {a b : Option Value} {m₀ : Str → Option Value}
    (F : Fr h₀ L h' (fun z => if z = y then some (.str r t) else if z = x then some v else if z = y then a else if z = x then b else m₀ z)) (N : News h₀ L h' (own ++ news)) (k : ∀ p ∈ news, p.1 ≠ I) (hp : Pr r) :
    TurnEnd h₀ L I own (fun m₁ nx => (∃ u r t, m₁ = (fun z => if z = y then some (.str r t) else if z = x then u else m₀ z) ∧ Pr r) ∧ nx = news) s₁ Q .next { s₁ with heap := h', toks := tk } := by
  refine TurnEnd.next F N k ⟨⟨some v, r, t, ?_, hp⟩, rfl⟩
  funext z
  by_cases h1 : z = y
  · simp [h1]
  · by_cases h2 : z = x
    · simp [h1, h2]
    · simp [h1, h2]
theorem str_replace {prog : Program} {w : World} {A : Around} {E : Value → Shared → Prop} {s : Shared} {x y z : Str} {t : Tok} {u : Nat} {Q : Value → Shared → Prop} (hu : 1 ≤ u) (hyz : (y == z) = false) (hx : x.length ≤ 10) (hz : z.length ≤ 1)
    (hq : ∀ t' k, Q (.str (Txt.replace x y z) t') { s with toks := k }) : wpAny (model prog w) A (call (.builtin "str.replace") [.str x t, .str y u, .str z (u + 1)]) Q E s :=
  SC.replaceW (fun e => by have e' : u = 0 := e; omega) (fun e => Nat.succ_ne_zero u e) (fun e => by have e' : u = u + 1 := e; omega) hyz (by omega) (by omega) hq
theorem replace_le {x y z : Str} (hx : x.length ≤ 10) (hz : z.length ≤ 1) : (Txt.replace x y z).cps.size ≤ 16777216 := by
  unfold Txt.replace
  split
  · have e : x.cps.size = x.length := rfl
    omega
  · have e : (x.length + 1) * z.length ≤ 11 * 1 := Nat.mul_le_mul (by omega) hz
    have h := fits_replaced (x := x) (z := z) y (by omega)
    rw [sizeLine_eq] at h
    exact h
section
variable {prog : Program} {w : World} {A : Around} {E : Value → Shared → Prop} {s : Shared} {h₀ : Heap} {env : Env} {x : Str} {body : List Stmt} {Q : Flow → Shared → Prop} {m₀ : Str → Option Value} {news : List (Addr × Obj)}
theorem loop_fold {ax : Addr} (stored : List Str) (hh : A.handled = none) (F : Fr h₀ env.locals s.heap m₀) (N : News h₀ env.locals s.heap [(109, tabObj #[]), (102, tabObj #[])]) (hl : s.heap.IsList ax #[.bool false, .bool true]) (hLa : env.locals ≠ ax)
    (turn : ∀ I fo t9 t2 cds (u : Str → Option Value) h tk own, (∀ p ∈ cds, p.1 ≠ 109 ∧ p.1 ≠ 102 ∧ p.1 ≠ I) → 109 ≠ I → 102 ≠ I → (∀ p ∈ own, p.1 = I ∨ p.1 = ax) → (∃ o, (I, o) ∈ own) → St9 t9 cds → St2 t2 cds →
      Fr h₀ env.locals h (fun z => if z = x then some (.bool fo) else if stored.contains z then u z else m₀ z) → News h₀ env.locals h (own ++ (109, tabObj t9) :: (102, tabObj t2) :: cds) →
      wpAny (model prog w) A (execs body env) (TurnEnd h₀ env.locals I own (FoldJ stored m₀) { s with heap := h, toks := tk } Q) E { s with heap := h, toks := tk })
    (done : ∀ (u : Str → Option Value) h tk nx, Fr h₀ env.locals h (fun z => if stored.contains z then u z else m₀ z) → News h₀ env.locals h nx → FoldJ stored m₀ (fun z => if stored.contains z then u z else m₀ z) nx → Q .next { s with heap := h, toks := tk }) :
    wpAny (model prog w) A (pyIter (.ref ax)) (fun it s₂ => LoopAtV prog w A h₀ env x body Q E it s₂) E s := by
  refine loop_list (fun _ m₁ nx => FoldJ stored m₀ m₁ nx) hh F N hl hLa ⟨⟨m₀, by funext z; split <;> rfl⟩, #[], #[], [], rfl, .inl rfl, .inl rfl, fun p hp => nomatch hp⟩ ?_ ?_
  · rintro I i v m₁ news₁ h tk own hv ⟨⟨u, rfl⟩, t9, t2, cds, rfl, h9, h2, hc⟩ k1 k2 k3 F1 N1
    have : ∃ fo, v = .bool fo := by
      match i, hv with
      | 0, hv => exact ⟨false, by simpa using hv.symm⟩
      | 1, hv => exact ⟨true, by simpa using hv.symm⟩
      | i + 2, hv => simp at hv
    obtain ⟨fo, rfl⟩ := this
    exact turn I fo t9 t2 cds u h tk own (fun p hp => ⟨(hc p hp).1, (hc p hp).2, k1 p (.tail _ (.tail _ hp))⟩) (k1 _ (.head _)) (k1 _ (.tail _ (.head _))) k2 k3 h9 h2 F1 N1
  · rintro m₁ nx h tk hJ F1 N1
    obtain ⟨⟨u, rfl⟩, _⟩ := id hJ
    exact done u h tk nx F1 N1 hJ
end
def MidK (h₀ : Heap) (L : Addr) (m₀ : Str → Option Value) (news : List (Addr × Obj)) (fo : Bool) (s₁ : Shared) (fl : Flow) (s' : Shared) : Prop :=
  fl = .next ∧ ∃ t h tk, s' = { s₁ with heap := h, toks := tk } ∧ Fr h₀ L h (fun y => if y = Str.ofString "known" then some (.str (knownS fo) t) else m₀ y) ∧ News h₀ L h news
theorem MidK.mk {h₀ : Heap} {L : Addr} {m₀ : Str → Option Value} {news : List (Addr × Obj)} {fo : Bool} {s₁ : Shared} {t : Tok} {h : Heap} {tk : Nat} (F : Fr h₀ L h (fun y => if y = Str.ofString "known" then some (.str (knownS fo) t) else m₀ y)) (N : News h₀ L h news) : MidK h₀ L m₀ news fo s₁ .next { s₁ with heap := h, toks := tk } :=
  ⟨rfl, t, h, tk, rfl, F, N⟩
theorem MidK.use {M : Model} {A : Around} {E : Value → Shared → Prop} {s : Shared} {c : Sem Flow} {Q : Flow → Shared → Prop} {h₀ : Heap} {L : Addr} {m₀ : Str → Option Value} {news : List (Addr × Obj)} (fo : Bool) (F : Fr h₀ L s.heap m₀) (N : News h₀ L s.heap news) (h : wpAny M A c (MidK h₀ L m₀ news fo s) E s)
    (k : ∀ t h tk, Fr h₀ L h (fun y => if y = Str.ofString "known" then some (.str (knownS fo) t) else m₀ y) → News h₀ L h news → Q .next { s with heap := h, toks := tk }) :
    wpAny M A c Q E s :=
  wpAny_mono h (fun fl s' ⟨e, t, h, tk, es, F, N⟩ => by rw [e, es]; exact k t h tk F N) fun _ _ e => e
theorem mem3 {α : Type} {a b c : α} {l : List α} (h1 : a ∈ l) (h2 : b ∈ l) (h3 : c ∈ l) : ∀ q ∈ [a, b, c], q ∈ l := List.forall_mem_cons.mpr ⟨h1, List.forall_mem_cons.mpr ⟨h2, List.forall_mem_cons.mpr ⟨h3, List.forall_mem_nil _⟩⟩⟩
theorem fr_same {h₀ h : Heap} {L : Addr} {m₀ : Str → Option Value} {x : Str} {v : Value} (F : Fr h₀ L h m₀) (e : m₀ x = some v) : Fr h₀ L h (fun y => if y = x then some v else m₀ y) := by
  have : (fun y => if y = x then some v else m₀ y) = m₀ := by
    funext y; split
    · rename_i h; rw [h, e]
    · rfl
  rw [this]; exact F
end Mine
set_option maxRecDepth 100000
local macro_rules | `(tactic| walk_at "c off") => `(tactic| (intro z hz hy; (simp only [List.contains_cons, List.contains_nil, Bool.or_false, Bool.or_eq_false_iff, beq_eq_false_iff_ne, ne_eq] at hz); simp [hz, hy]))
local macro_rules | `(tactic| walk_at "off tac") => `(tactic| (intro z hz; (simp only [List.contains_cons, List.contains_nil, Bool.or_false, Bool.or_eq_false_iff, beq_eq_false_iff_ne, ne_eq] at hz); simp [hz]))
section
variable {w : World} {p : Program} {loose : List Str} {mean : ExcName → Option Value} {mg mb : Str → Option Value}
  {cn : Str} {cs : Scope} {a : Addr} {ccd : Value} {h₀ : Heap} {L : Addr} {m : Str → Option Value} {l news : List (Addr × Obj)} {s : Shared} {Q E : Value → Shared → Prop}
theorem sr_use {pk : Nat → Bool} {fprog fs : Addr} {y : Str} {its : List Value} {c : Nat} {V : Value} (hV : rev its c = V) (B : Below callerA h₀ [] h₀) (F : Fr h₀ L s.heap m) (KX : (hd.heap_39 w.params).In h₀) (N : News h₀ L s.heap news) (T : Top p loose mean mg mb h₀) (hk : cs.kind = .function)
  (hp : ProgIn l fprog fs) (hs : SearchLaw w p loose mean mg mb l fs y its) (hI : HOk w p loose mean mg mb pk l its) (sub : ∀ q ∈ l, q ∈ news) (t u : Tok)
  (hret : ∀ (h' : Heap) (tk' : Nat), Fr h₀ L h' m → News h₀ L h' news → Q V { s with heap := h', toks := tk' }) :
  wpAny (model PySem.Challenge.rw_il0002_01.row.prog w) (callerA.deeper (envOf cn cs L a ccd)) (call (.ref 100) [.ref fprog, .str y t, .int (c : Int) u]) Q E s :=
  sr_spec B F KX N T hk hp hs hI.hits sub t u (hV ▸ hret)
end
local macro_rules | `(tactic| k_room) => `(tactic| ktr_room)
local macro_rules | `(tactic| walk_at "call type:type") => `(tactic| (k_here; (with_reducible show wpAny _ _ (call (Value.type "type") [Value.bytes _ _]) _ _ _); refine call_type_of (typeIs_bytes _ _ _) (by decide +kernel) ?_))
local macro_rules | `(tactic| walk_at "call type:type") => `(tactic| (k_here; (with_reducible show wpAny _ _ (call (Value.type "type") [Value.str _ _]) _ _ _); refine call_type_of (typeIs_str _ _ _) (by decide +kernel) ?_))
local macro_rules | `(tactic| walk_at "call ref") => `(tactic| (k_here; (with_reducible show wpAny _ _ (call (Value.ref 78) [Value.int _ _]) _ _ _); k_dflt (refine' hex_spec ?B ?F ?K ?N ?T ?k ?d _ _ ?_; (case B => k_asm); (case F => k_asm); (case K => k_asm); (case N => k_asm); (case T => k_asm); (case k => first | exact rfl | assumption); (case d => ktr_room); intro t9 h9 tk9 F9 N9; (try dsimp only); (try k_sweep))))
local macro_rules | `(tactic| walk_at "subscriptTail") => `(tactic| (k_here; (with_reducible show wpAny _ _ (subscriptTail _ _ (Value.bytes _ _) (Value.int _ _)) _ _ _); (refine bytes_item ?z ?a ?b ?_; (case z => omega); (case a => omega); (case b => omega)); intro t9 k9))
local macro_rules | `(tactic| k_all) => `(tactic| first | exact allNe_of_lt (by assumption) | exact allNe_of_lt (allLt_back (by assumption)))
local macro_rules | `(tactic| walk_at "call builtin:list.append") => `(tactic| (k_here; (with_reducible show wpAny _ _ (call (Value.builtin _) [Value.ref _, _]) _ _ _); k_dflt (refine' append_K ?k1 ?k2 ?k3 ?_ ?z; (case k1 => k_asm); (case k2 => k_asm); (case k3 => k_upd); (case z => (rw [PySem.sizeLine_eq]; omega)); k_whole); intro h' F' N'; (try k_sweep)))
local macro_rules | `(tactic| ksw_same) => `(tactic| (intro z h2 h3; (simp only [List.forall_mem_cons, List.not_mem_nil, false_implies, implies_true, and_true, ne_eq] at h2); (have h4 := h3); (simp only [List.contains_cons, List.contains_nil, Bool.or_false, Bool.or_eq_false_iff, beq_eq_false_iff_ne, ne_eq] at h4); (simp [kstB, h2, h3, h4]; done)))
local macro_rules | `(tactic| walk_at "call ref") => `(tactic| (k_here; (with_reducible show wpAny _ _ (call (Value.ref 85) [Value.bytes _ _]) _ _ _); k_dflt (refine' a2b_spec ?B ?F ?K ?N ?T ?k ?d _ _ ?z ?e ?kn ?_; (case B => k_asm); (case F => k_asm); (case K => k_asm); (case N => k_asm); (case T => k_asm); (case k => first | exact rfl | assumption); (case d => ktr_room); (case z => omega); (case e => assumption); (case kn => exact known_of (by assumption)); intro t9 h9 tk9 F9 N9; (try dsimp only); (try k_sweep))))
local macro_rules | `(tactic| walk_at "getMethod str") => `(tactic| (k_here; with_reducible refine getMethod_encode ?_))
local macro_rules | `(tactic| walk_at "getMethod bytes") => `(tactic| (k_here; with_reducible refine getMethod_upper ?_))
local macro_rules | `(tactic| walk_at "call builtin:str.encode") => `(tactic| (k_here; (refine encode_ascii ?a ?b ?_; (case a => assumption); (case b => (rw [PySem.sizeLine_eq]; omega))); intro t9 k9))
local macro_rules | `(tactic| walk_at "call builtin:bytes.upper") => `(tactic| (k_here; (refine bytes_upper ?b ?_; (case b => (rw [PySem.sizeLine_eq]; omega))); intro t9 k9))
local macro_rules | `(tactic| walk_at "getMethod ref") => `(tactic| (k_here; (with_reducible show wpAny _ _ (getMethod (Value.ref 43) _ _) _ _ _); k_dflt (refine' pat_method ?F ?X ?l ?_; (case F => k_asm); (case X => k_asm); (case l => k_is))))
local macro_rules | `(tactic| walk_at "call builtin:re.Pattern.search") => `(tactic| (k_here; k_dflt (first
  | (refine' pat_no ?F ?X ?l ?c ?i ?z ?f ?_; (case f => assumption); (case F => k_asm); (case X => k_asm); (case l => k_is); (case c => k_is); (case i => kernel_rfl); (case z => omega))
  | (refine' pat_yes ?F ?N ?X ?l ?c ?i ?z ?f ?_; (case f => assumption); (case F => k_asm); (case N => k_asm); (case X => k_asm); (case l => k_is); (case c => k_is); (case i => kernel_rfl); (case z => omega); intro M9 h9 F9 N9 T9; (try k_sweep)))))
local macro_rules | `(tactic| walk_at "truthy ref") => `(tactic| (k_here; refine truthy_typed (by assumption) match_no_bool match_no_len ?_))
local macro_rules | `(tactic| walk_at "truthOfDropped ref") => `(tactic| (k_here; refine truthOfDropped_typed (by assumption) match_no_bool match_no_len ?_))
local macro_rules | `(tactic| walk_at "call type:str") => `(tactic| (k_here; (with_reducible show wpAny _ _ (call (Value.type "str") [Value.ref _]) _ _ _); (with_reducible rename Got _ _ _ _ _ => gX); k_dflt (refine' str_of_own ?X ?u (excOwn_of ?N gX) ?f ?s ?_; (case X => k_in); (case u => exact Nat.le_of_ble_eq_true rfl); (case N => k_asm); (case f => k_is); (case s => k_is))))
local macro_rules | `(tactic| k_all) => `(tactic| assumption)
local macro_rules | `(tactic| walk_at "exec If") => `(tactic| ((with_reducible show wpAny _ _ (exec (Stmt.If (Expr.Compare _ [CmpOp.Eq] [Expr.List _ _] _) _ _ _) _) _ _ _); refine Halt.mk ?_))
local macro_rules | `(tactic| walk_at "exec If") => `(tactic| ((with_reducible show wpAny _ _ (exec (Stmt.If (Expr.Name _ _) _ _ _) _) _ _ _); refine Halt.mk ?_))
local macro_rules | `(tactic| walk_at "inplaceOp Add str str") => `(tactic| (k_here; refine SBL.iadd (hsz := ?hsz) ?_; (case hsz => (rw [PySem.sizeLine_eq]; omega)); intro t9 k9 l9))
local macro_rules | `(tactic| walk_at "call builtin:str.replace") => `(tactic| (k_here; k_dflt (refine' str_replace ?hu ?hyz ?hx ?hz ?_; (case hu => assumption); (case hyz => decide); (case hx => omega); (case hz => decide)); intro t9 k9))
local macro_rules | `(tactic| walk_at "call ref") => `(tactic| refine Halt.mk ?_)
local macro_rules | `(tactic| walk_at "call builtin:len") => `(tactic| (k_here; (with_reducible show wpAny _ _ (call (Value.builtin _) [Value.str (Txt.rstripChars (Txt.slice _ none (some _)) (knownS _)) _]) _ _ _); k_dflt (refine' len_bgn ?a ?b ?c ?_; (case a => with_reducible assumption); (case b => with_reducible assumption); (case c => with_reducible assumption))))
local macro_rules | `(tactic| walk_at "call ref") => `(tactic| (k_here; (with_reducible show wpAny _ _ (call (Value.ref 126) [Value.str _ _]) _ _ _); k_dflt (refine' oct_spec ?B ?F ?K ?N ?T ?k _ _ ?x ?z ?e ?_; (case B => k_asm); (case F => k_asm); (case K => k_asm); (case N => k_asm); (case T => k_asm); (case k => exact rfl); (case x => exact bc_known (by with_reducible assumption)); (case z => exact slice_le10 (by with_reducible assumption)); (case e => exact bc_even (by with_reducible assumption) (by with_reducible assumption)); intro t9 h9 k9 F9 N9; (try dsimp only); (try k_sweep))))
local macro_rules | `(tactic| walk_at "call ref") => `(tactic| (k_here; (with_reducible show wpAny _ _ (call (Value.ref 100) [Value.ref _, Value.str _ _, Value.int _ _]) _ _ _); k_dflt (refine' sr_use ?V ?B ?F ?K ?N ?T ?k ?p ?s ?I ?b _ _ ?_; (case V => with_reducible assumption); (case B => k_asm); (case F => k_asm); (case K => k_asm); (case N => k_asm); (case T => k_asm); (case k => exact rfl); (case p => with_reducible assumption); (case s => with_reducible assumption); (case I => with_reducible assumption); (case b => exact sub_c); intro h9 k9 F9 N9; (try dsimp only); (try k_sweep))))
local macro_rules | `(tactic| walk_at "call ref") => `(tactic| (k_here; (with_reducible show wpAny _ _ (call (Value.ref 121) [Value.str (Txt.slice _ (some ((bgn _ _ _ : Nat) : Int)) (some _)) _, Value.bool _]) _ _ _); k_dflt (refine' read_spec ?B ?F ?K ?N ?T ?k _ _ _ ?x ?z ?_; (case x => exact bc_lt (by with_reducible assumption) (by with_reducible assumption)); (case B => k_asm); (case F => k_asm); (case K => k_asm); (case N => k_asm); (case T => k_asm); (case k => exact rfl); (case z => exact slice_le10 (by with_reducible assumption)); intro v9 h9 k9 ans9 F9 N9; (obtain ⟨tv9, e9⟩ := ans_even' (by with_reducible assumption) (by with_reducible assumption) (by with_reducible assumption) ans9); subst e9; (try dsimp only); (try k_sweep))))
local macro_rules | `(tactic| walk_at "call ref") => `(tactic| (k_here; (with_reducible show wpAny _ _ (call (Value.ref 121) [Value.str (Txt.slice _ (some ((bgn _ _ _ : Nat) : Int)) (some _)) _, Value.bool _]) _ _ _); k_dflt (refine' read_spec ?B ?F ?K ?N ?T ?k _ _ _ ?x ?z ?_; (case x => exact bc_lt (by with_reducible assumption) (by with_reducible assumption)); (case B => k_asm); (case F => k_asm); (case K => k_asm); (case N => k_asm); (case T => k_asm); (case k => exact rfl); (case z => exact slice_le10 (by with_reducible assumption)); intro v9 h9 k9 ans9 F9 N9; (obtain ⟨tv9, e9⟩ := ans_odd' (by with_reducible assumption) (by with_reducible assumption) (by with_reducible assumption) ans9); subst e9; (try dsimp only); (try k_sweep))))
local macro_rules | `(tactic| walk_at "call ref") => `(tactic| (k_here; (with_reducible show wpAny _ _ (call (Value.ref 121) [Value.str (Txt.slice _ none (some _)) _, Value.bool _]) _ _ _); k_dflt (refine' read_spec ?B ?F ?K ?N ?T ?k _ _ _ ?x ?z ?_; (case x => exact c0_lt (by with_reducible assumption) (by with_reducible assumption)); (case B => k_asm); (case F => k_asm); (case K => k_asm); (case N => k_asm); (case T => k_asm); (case k => exact rfl); (case z => exact slice_le10 (by with_reducible assumption)); intro v9 h9 k9 ans9 F9 N9; (obtain ⟨tv9, e9⟩ := ans_foreign' (by with_reducible assumption) (by with_reducible assumption) (by with_reducible assumption) ans9); subst e9; (try dsimp only); (try k_sweep))))
local macro_rules | `(tactic| walk_at "subscriptTail") => `(tactic| (k_here; (with_reducible show wpAny _ _ (subscriptTail _ _ (Value.ref _) (Value.int _ _)) _ _ _); k_dflt (refine' item_listL ?l ?h0 ?h1 ?x ?_; (case x => with_reducible assumption); (case l => exact News.isList (by k_asm) (by k_mem)); (case h0 => omega); (case h1 => omega))))
local macro_rules | `(tactic| walk_at "compareOp IsNot ref ref") => `(tactic| with_reducible refine wpAny_isNot_ref_self ?_)
local macro_rules | `(tactic| walk_at "exec For Name Name cons nil") => `(tactic| refine Halt.mk ?_)
local macro_rules | `(tactic| walk_at "exec For Name List cons nil") => `(tactic| refine Halt.mk ?_)
local macro_rules | `(tactic| walk_at "exec For Name Call cons nil") => `(tactic| refine Halt.mk ?_)
local macro_rules | `(tactic| walk_at "pyIter ref") => `(tactic| refine Halt.mk ?_)
set_option maxHeartbeats 8000000 in
theorem PySem.Challenge.cw_il0002_01_holds : PySem.Challenge.rw_il0002_01.Holds :=
  hd (by
    k_go0
    all_goals (try k_fold)
    k_steps
    with_reducible refine Halt.out ?_
    rename Fr (ghostOf _ _) _ _ _ => F1
    rename News _ _ _ _ => N1
    rename IntsAre _ (List.take 10 _) => hI1
    refine MidN.use F1 ?hMid ?kMid
    case hMid =>
      refine wpAny_If ?_
      k_steps
      · rename Fr (ghostOf _ _) _ _ _ => F2
        rename News _ _ _ _ => N2
        refine MidN.mk (its := [_, _, _, _, _, _, _]) (ns := [8, 80, 7, 16, 14, 24, 120]) F2 (news_sub N2 (mem3 (.head _) (.tail _ (.tail _ (.tail _ (.head _)))) (.tail _ (.tail _ (.tail _ (.tail _ (.head _))))))) ?_ (by decide) (by decide)
        exact .cons _ _ (.cons _ _ (.cons _ _ (.cons _ _ (.cons _ _ (.cons _ _ (.cons _ _ .nil))))))
      · rename Fr (ghostOf _ _) _ _ _ => F2
        rename News _ _ _ _ => N2
        rename decide (_ = _) = false => hne
        refine MidN.mk (fr_same F2 rfl) (news_sub N2 (mem3 (.tail _ (.head _)) (.tail _ (.tail _ (.head _))) (.tail _ (.tail _ (.tail _ (.head _)))))) hI1 (List.length_pos_iff.mpr (of_decide_eq_false hne)) ?_
        rw [List.length_take]; exact Nat.min_le_left _ _
    case kMid =>
      clear F1 N1
      intro nl its ns h2 tk2 F2 N2 hI2 hn1 hn2
      k_steps
      with_reducible refine Halt.out ?_
      rename Fr (ghostOf _ _) _ _ _ => F3
      rename News _ _ _ _ => N3
      refine with_toksQ (n := 1) (Nat.succ_le_succ (Nat.zero_le _)) ?_
      k_dflt (refine' For_invVF F3 ?x1 ?x2 ?iter (hs := ?hs) (hE := ?hE))
      case x1 => rfl
      case x2 => rfl
      case hs => intro _; rfl
      case hE => passes_own
      case iter =>
        k_steps
        with_reducible refine Halt.out ?_
        rename Fr (ghostOf _ _) _ _ _ => F4
        rename News _ _ _ _ => N4
        k_dflt (refine' loop_row (fun i r => r.cps.size = i ∧ ∀ c ∈ r.cps.toList, c < 128) rfl F4 N4 ⟨_, (N4 _ (.head _)).1, rfl, _, rfl⟩ ?hLa ⟨rfl, fun c hc => nomatch hc⟩ ?turn ?done)
        case hLa => exact Ne.symm (N4 _ (.head _)).2.1
        case turn =>
          intro I i v r t u h6 tk6 own hv hpr hI6 hown _ F6 N6
          clear F4 N4
          obtain ⟨kv, tv, rfl, _⟩ := hI2.at i v (by simpa using hv)
          obtain ⟨hr1, hr2⟩ := hpr
          have hi10 : i < 10 := by
            have := (Array.getElem?_eq_some_iff.mp hv).1
            simp only [List.size_toArray, hI2.length] at this
            omega
          have hrl : r.length = i := hr1
          k_steps
          all_goals (
            rename Fr (ghostOf _ _) _ _ _ => F7
            rename News _ _ _ _ => N7
            refine TurnEnd.row F7 N7 hI6 ?_
            exact row_ok hr1 hr2 (by decide) _)
        case done =>
          intro r t u h6 tk6 hpr F6 N6 htk6
          replace htk6 : 1 ≤ tk6 := htk6
          obtain ⟨hr1, hr2⟩ := hpr
          clear F4 N4
          have hrl : r.length ≤ 10 := by
            have : r.length = its.toArray.size := hr1
            rw [this]; simpa [hI2.length] using hn2
          have hr0 : 1 ≤ r.length := by
            have : r.length = its.toArray.size := hr1
            rw [this]; simpa [hI2.length] using hn1
          k_steps
          with_reducible refine Halt.out ?_
          rename Fr (ghostOf _ _) _ _ _ => F7
          rename News _ _ _ _ => N7
          clear hr1
          k_dflt (refine' For_invVF F7 ?x1 ?x2 ?iter (hs := ?hs) (hE := ?hE))
          case x1 => rfl
          case x2 => rfl
          case hs => intro _; rfl
          case hE => passes_own
          case iter =>
            k_steps
            with_reducible refine Halt.out ?_
            rename Fr (ghostOf _ _) _ _ _ => F8
            rename News _ _ _ _ => N8
            have hy := replace_le (y := Str.ofString "\n") (z := Str.ofString " ") hrl (by decide)
            k_dflt (refine' loop_fold ["folded", "known", "hits", "place", "read", "prog", "last", "c", "begin", "due"] rfl F8 (news_sub N8 (l' := [(109, tabObj #[]), (102, tabObj #[])]) (fun q hq => by simp at hq; rcases hq with rfl | rfl <;> simp)) ?hl8 ?hL8 ?turn8 ?done8)
            case hl8 => exact ⟨_, (N8 _ (.head _)).1, rfl, _, rfl⟩
            case hL8 => exact Ne.symm (N8 _ (.head _)).2.1
            case turn8 =>
              intro I fo t9 t2 cds u6 h8 tk8 own hcd hI9 hI2x hown hIo hS9 hS2 F9 N9
              clear F8 N8
              have N10 := news_swap N9
              simp only [List.cons_append] at N10
              clear N9
              k_steps
              with_reducible refine Halt.out ?_
              rename Fr (ghostOf _ _) _ _ _ => F11
              rename News _ _ _ _ => N11
              refine MidK.use fo F11 N11 ?hMid ?kMid
              case hMid =>
                cases fo with
                | false =>
                  refine wpAny_If ?_
                  k_steps
                  rename Fr (ghostOf _ _) _ _ _ => F12
                  rename News _ _ _ _ => N12
                  exact MidK.mk (fr_same F12 rfl) N12
                | true =>
                  refine wpAny_If ?_
                  k_steps
                  rename Fr (ghostOf _ _) _ _ _ => F12
                  rename News _ _ _ _ => N12
                  exact MidK.mk F12 N12
              case kMid =>
                clear F11 N11
                intro tkn h9 tk9 F12 N12
                clear F6 N6 F9 N10
                k_steps
                with_reducible refine Halt.out ?_
                rename Fr (ghostOf _ _) _ _ _ => F13
                rename News _ _ _ _ => N13
                k_dflt (refine' For_invVF F13 ?y1 ?y2 ?yiter (hs := ?yhs) (hE := ?yhE))
                case y1 => rfl
                case y2 => rfl
                case yhs => intro _; rfl
                case yhE => passes_own
                case yiter =>
                  k_steps
                  with_reducible refine Halt.out ?_
                  rename Fr (ghostOf _ _) _ _ _ => F14
                  rename News _ _ _ _ => N14
                  rename IsRange _ _ _ _ _ _ _ _ => hR14
                  rename Top _ _ _ _ _ _ => hTop
                  rename 109 < _ ∧ 102 < _ ∧ AllLt _ (cds ++ own) => hl14
                  obtain ⟨h109, h102, hall⟩ := hl14
                  rename nl < _ ∧ 109 < _ ∧ 102 < _ => hl15
                  have hb2 : ∀ q ∈ cds ++ own, q.1 ≠ 109 ∧ q.1 ≠ 102 := fun q hq => by
                    rcases List.mem_append.mp hq with hq | hq
                    · exact ⟨(hcd q hq).1, (hcd q hq).2.1⟩
                    · rcases hown q hq with e | e
                      · rw [e]; exact ⟨Ne.symm hI9, Ne.symm hI2x⟩
                      · rw [e]; exact ⟨Nat.ne_of_gt hl15.2.1, Nat.ne_of_gt hl15.2.2⟩
                  rw [show ((r.length : Int) - 1) = ((r.length - 1 : Nat) : Int) by omega] at hR14
                  k_dflt (refine' loop_hits hTop ["place", "read"] (pkOf fo r) I cds rfl F14 N14 hR14 ?hn14 hS2 ?turn14 ?done14)
                  case hn14 => omega
                  case turn14 =>
                    intro J i ti its3 ep3 t3 ex3 u3 h15 tk15 own3 hi3 hS3 hDJ hbJ heJ hoJ hoI F15 N15
                    clear F14 N14
                    k_steps
                    with_reducible refine Halt.out ?_
                    rename Fr (ghostOf _ _) _ _ _ => F16
                    rename News _ _ _ _ => N16
                    k_dflt (refine' read_spec ?zB F16 ?zK N16 ?zT ?zk fo _ _ ?zx ?zz ?zr)
                    case zB => k_asm
                    case zK => k_asm
                    case zT => k_asm
                    case zk => exact rfl
                    case zx => exact slice2_lt hr2 (by omega)
                    case zz => (have := (by assumption : (Txt.slice r (some (i : Int)) (some ((i : Int) + 2))).length ≤ r.length); exact Nat.le_trans this (by omega))
                    case zr =>
                      intro v3 h16 tk16 ans3 F17 N17
                      clear F16 N16
                      have hDn := hits_off hS3 hall hDJ hoJ
                      have hz3 : its3.toArray.size = i := by simpa using hS3.len
                      rcases read_cases (by omega) ans3 with ⟨hpk, tv, rfl⟩ | ⟨hpk, bv, tv, rfl⟩
                      · k_steps
                        rename Fr (ghostOf _ _) _ _ _ => F18
                        rename News _ _ _ _ => N18
                        simp only [List.push_toArray] at N18
                        exact hits_end F18 (by walk_at "off tac") N18 (fun q hq => hq) (hS3.none hpk) hDJ h109 hbJ heJ
                      · k_steps
                        with_reducible refine Halt.out ?_
                        rename Fr (ghostOf _ _) _ _ _ => F18
                        rename News _ _ _ _ => N18
                        k_dflt (refine' hit_spec ?zB F18 ?zK (news_2 N18) ?zT ?zk ?zC ?zn hS3.st ?zs _ _ ?zr)
                        case zB => k_asm
                        case zK => k_asm
                        case zT => k_asm
                        case zk => exact rfl
                        case zC => assumption
                        case zn => exact hits_n2 hS3 h109 hb2 hDJ hoJ
                        case zs => exact fun q hq => .tail _ (.tail _ (List.mem_append_left _ ((List.mem_append.mp hq).elim (fun h => List.mem_append_left _ h) (fun h => List.mem_append_right _ (List.mem_append_left _ h)))))
                        case zr =>
                          intro f3 h19 tk19 ext3 t4 F19 N19 hst4 hH4 hA4
                          clear F18 N18
                          replace N19 := news_3 N19
                          have hDn2 := hits_off2 hA4 hDn
                          k_steps
                          rename Fr (ghostOf _ _) _ _ _ => F20
                          rename News _ _ _ _ => N20
                          simp only [List.push_toArray] at N20
                          exact hits_end F20 (by walk_at "off tac") N20 (fun q hq => by simpa [List.append_assoc] using hq) (hS3.some hpk hst4 hH4 hA4 (hIo.elim fun o ho => ⟨o, List.mem_append_right _ ho⟩) (fun q hq => List.mem_append_left _ hq)) hDJ h109 hbJ (hits_ne hA4 heJ hoI)
                  case done14 =>
                    intro u16 its16 ep16 t16 ex16 h16 tk16 hS16 F16 N16
                    clear F14 N14
                    k_steps
                    with_reducible refine Halt.out ?_
                    rename Fr (ghostOf _ _) _ _ _ => F17
                    rename News _ _ _ _ => N17
                    k_dflt (refine' fnd_spec ?zB F17 ?zK (news_4 N17) ?zT ?zk ?zC ?zn (hS9.mono ?zs) _ its16 ep16 _ _ (.head _) (hS16.ok.mono ?zo).hits ?zz hy ?zr)
                    case zB => k_asm
                    case zK => k_asm
                    case zT => k_asm
                    case zk => exact rfl
                    case zC => assumption
                    case zn => exact hits_n9 hS16 h109 hb2
                    case zs => exact fun q hq => .tail _ (.tail _ (List.mem_append_right _ (List.mem_append_left _ hq)))
                    case zo => exact fun q hq => .tail _ (.tail _ hq)
                    case zz => (rw [hS16.len]; omega)
                    case zr =>
                      intro fp h18 tk18 ext5 t59 fs F18 N18 hst5 hP5 hSL5 hA5
                      clear F17 N17
                      replace N18 := news_3 N18
                      have hIt := hS16.ok.of_prog hP5
                      k_steps
                      with_reducible refine Halt.out ?_
                      rename Fr (ghostOf _ _) _ _ _ => F20
                      rename News _ _ _ _ => N20
                      k_dflt (refine' For_invVF F20 ?w1 ?w2 ?witer (hs := ?whs) (hE := ?whE))
                      case w1 => rfl
                      case w2 => rfl
                      case whs => intro _; rfl
                      case whE => passes_own
                      case witer =>
                        k_steps
                        with_reducible refine Halt.out ?_
                        rename Fr (ghostOf _ _) _ _ _ => F21
                        rename News _ _ _ _ => N21
                        rename IsRange _ _ _ _ _ _ _ _ => hR21
                        rw [show ((r.length : Int) + 1) = ((r.length + 1 : Nat) : Int) by omega] at hR21
                        k_dflt (refine' loop_c ["c", "begin", "due"] (lastV its16) rfl rfl F21 N21 hR21 ?hnc ?turnc ?donec)
                        case hnc => omega
                        case turnc =>
                          intro I3 i ti u23 h23 tk23 own4 hi23 hb23 ho23 F24 N24
                          clear F21 N21
                          simp only [List.cons_append] at N24
                          have hci : i ≤ r.length := by omega
                          have hLL := last_law hr2 hIt.pk hS16.len hci
                          have hHI := hIt.hits
                          by_cases hcase : (i - bgn fo r i) % 2 = 0 ∧ bgn fo r i < i
                          · obtain ⟨f, hit, hrv⟩ := hLL.1 hcase
                            have hit' : its16[((i : Int) - 2).toNat]? = some (.ref f) := by rw [show ((i : Int) - 2).toNat = i - 2 by omega]; exact hit
                            have he := (even_nat (bgn_le (fo := fo) hci)).mpr hcase.1
                            k_steps
                            all_goals first
                                                              | (exfalso; (rename (_ != _) = true => hbad); simp at hbad; done)
                                                              | (exfalso; exact hodd ⟨by assumption, by assumption⟩)
                                                              | (exfalso; omega)
                                                              | ((rename Fr (ghostOf _ _) _ _ _ => F29); (rename News _ _ _ _ => N29); exact c_end F29 (by rw [lastV_succ, hrv]; rfl) (by walk_at "c off") N29 hb23)
                          · have hrv0 := hLL.2 hcase
                            have hodd : ¬ (((i : Int) - ((bgn fo r i : Nat) : Int)).fmod 2 = 0 ∧ ((bgn fo r i : Nat) : Int) < (i : Int)) := fun x => hcase ⟨(even_nat (bgn_le (fo := fo) hci)).mp x.1, by omega⟩
                            rw [show lastV its16 i = rev its16 i from hrv0.symm] at F24
                            rcases rev_form hHI i (its16.length + 1) 0 .none (.inl rfl) with hrv | ⟨f, hrv⟩
                            · change rev its16 i = _ at hrv
                              rw [hrv] at F24
                              k_steps
                              all_goals first
                                                              | (exfalso; (rename (_ != _) = true => hbad); simp at hbad; done)
                                                              | (exfalso; exact hodd ⟨by assumption, by assumption⟩)
                                                              | (exfalso; omega)
                                                              | ((rename Fr (ghostOf _ _) _ _ _ => F29); (rename News _ _ _ _ => N29); exact c_end F29 (by rw [lastV_succ, hrv]; rfl) (by walk_at "c off") N29 hb23)
                            · change rev its16 i = _ at hrv
                              rw [hrv] at F24
                              k_steps
                              all_goals first
                                                              | (exfalso; (rename (_ != _) = true => hbad); simp at hbad; done)
                                                              | (exfalso; exact hodd ⟨by assumption, by assumption⟩)
                                                              | (exfalso; omega)
                                                              | ((rename Fr (ghostOf _ _) _ _ _ => F29); (rename News _ _ _ _ => N29); exact c_end F29 (by rw [lastV_succ, hrv]; rfl) (by walk_at "c off") N29 hb23)
                        case donec =>
                          intro u22 h22 tk22 F22 N22
                          clear F21 N21
                          dsimp only
                          k_steps
                          rename Fr (ghostOf _ _) _ _ _ => F23
                          rename News _ _ _ _ => N23
                          exact fold_end F23 (by walk_at "off tac") N23 hst5 hS9 hS16 hcd hI9 hI2x hIo hA5
            case done8 =>
              intro u6 h8 tk8 nx F9 N9 hJ9
              clear F8 N8
              dsimp only
              obtain ⟨_, t9, t2, cds, rfl, _⟩ := hJ9
              iterate 4 walk1
              · k_steps
              · exact ⟨GrownAt.of N9 (.head _), GrownAt.of N9 (.tail _ (.head _)), trivial⟩)
end
