import PyProof.Rows.All
import PySem.Sre
import PyProof.RulesTry
import PyProof.Dict
import PyProof.IsRules
import PyProof.NeKinds
import PyProof.ForAppend
import PyProof.ListStr
import PyProof.ListTruth
import PyProof.WalksPairs
import PyProof.Rows.StrSub
import KE.BitLaws
import KE.KAnyBase
import KE.KBytesWalk
import KE.KBytesAny
import KE.KBytesCut
import KE.KCat
import KE.KTup
import KE.KData
import KE.KLam
import KE.KEqDat
import KE.KTurns
import KE.KItemAt
import KE.KPairComp
import KE.KxDecode
import Wide.FinOn
import OpenK.AllK
import Wide.All
import Lean
import PySem.Challenge.RW_kq0058_01
set_option linter.unusedVariables false
set_option Elab.async false
section
open PySem PySem.W PyProof.Rows
set_option Elab.async false
set_option maxRecDepth 100000
set_option maxHeartbeats 0
namespace Mine
section
local macro_rules | `(tactic| o_head $_) => `(tactic| assumption)
theorem hd (h : (PySem.Challenge.rw_kq0058_01.row).Holds) : (PySem.Challenge.rw_kq0058_01.row).Holds := by k_head
end
end Mine
end
section
open PySem PySem.W PyProof.Rows
set_option maxRecDepth 100000
set_option maxHeartbeats 0
namespace Mine
noncomputable abbrev lo : List Str := [Str.ofString "_twin_re_7", Str.ofString "HEADER_TOKEN_RE", Str.ofString "HEADER_QUOTED_VALUE_RE",
      Str.ofString "HEADER_VALUE_RE", Str.ofString "HEADER_ESCAPE_RE", Str.ofString "HEADER_JOIN_TOKEN_RE",
      Str.ofString "HEADER_JOIN_ESCAPE_RE", Str.ofString "bytes_types", Str.ofString "a2b_base64",
      Str.ofString "b2a_base64", Str.ofString "b64encode", Str.ofString "b64decode", Str.ofString "_twin_re_1",
      Str.ofString "_special_chars_map"]
noncomputable def vw : Program := view PySem.Challenge.pw_kq0058_01 [0, 1, 3, 4, 5, 6, 7, 8, 9, 10, 11, 12, 13, 15, 16, 18, 19, 20, 21, 22, 23, 30, 31, 33, 34, 36, 37, 39, 40, 41, 42, 43]
noncomputable abbrev kAs : List Addr := [2, 3, 32, 34, 35, 37, 38, 42, 43, 44, 46, 47, 49, 50, 54, 55, 59, 60, 64, 65, 69, 70, 71, 73, 74, 76, 77, 81, 82, 86, 87, 88, 90, 91, 93, 94, 95, 97, 98, 100, 101, 102, 103, 105, 106, 108, 109, 110, 117, 118, 119, 120, 123, 125, 126, 128, 129, 130, 132, 133, 135, 136, 137, 139, 140, 142, 143, 144, 146, 147, 149, 150, 151, 152, 154, 155, 157, 158, 159, 160, 162, 163, 165, 166, 167, 168, 170, 171, 173, 174, 175, 176, 178, 179, 181, 182, 186, 187, 188, 190, 191, 193, 194, 196, 200, 202, 203, 205, 206, 207, 209, 210, 212, 213, 214, 216, 217, 219, 220, 221, 224, 225, 226, 229, 230, 231, 234, 235, 236, 239, 240, 241, 244, 245]
theorem kAs_eq : ∀ P, kAs = (hd.heap_1 P).map (·.1) := fun _ => by kernel_rfl
end Mine
end
section
open PySem PySem.W PyProof.Rows
set_option maxRecDepth 100000
namespace Mine
theorem plainAttrs_re_Pattern : PlainAttrs "re.Pattern" :=
  ⟨⟨"object.__getattribute__", by rw [typeLookup_type, builtinLookup_eq_fast]; kernel_rfl, F.canon_object_ga⟩, by rw [typeLookup_type, builtinLookup_eq_fast]; kernel_rfl⟩
theorem slot_re_Pattern_search : Slot "re.Pattern" "search" "re.Pattern.search" :=
  .of (owner := "re.Pattern") (n := "search") (by rw [typeLookup_type, builtinLookup_eq_fast]; kernel_rfl) (by decide +kernel) (by decide +kernel) (by decide +kernel)
    (by first | exact .inl (by decide +kernel) | exact .inr (by decide +kernel)) (by rw [isSubtype_type]; kernel_rfl)
theorem type_re_Pattern_search : typeOf (.builtin "re.Pattern.search") = pure (.type "method_descriptor") := by show builtinType _ = _; rw [builtinType_eq_fast]; kernel_rfl
theorem entry_re_Pattern_search : entryFor table "re.Pattern.search" = some Builtin.«re.Pattern.search» := entryFor_of_tree (by kernel_rfl)
theorem args_re_Pattern_search_2 (a b : Value) : argsOk "re.Pattern.search" ⟨[a, b], []⟩ := by
  unfold argsOk Manifest.signature?; kernel_rfl
theorem slot_re_Pattern_fullmatch : Slot "re.Pattern" "fullmatch" "re.Pattern.fullmatch" :=
  .of (owner := "re.Pattern") (n := "fullmatch") (by rw [typeLookup_type, builtinLookup_eq_fast]; kernel_rfl) (by decide +kernel) (by decide +kernel) (by decide +kernel)
    (by first | exact .inl (by decide +kernel) | exact .inr (by decide +kernel)) (by rw [isSubtype_type]; kernel_rfl)
theorem type_re_Pattern_fullmatch : typeOf (.builtin "re.Pattern.fullmatch") = pure (.type "method_descriptor") := by show builtinType _ = _; rw [builtinType_eq_fast]; kernel_rfl
theorem entry_re_Pattern_fullmatch : entryFor table "re.Pattern.fullmatch" = some Builtin.«re.Pattern.fullmatch» := entryFor_of_tree (by kernel_rfl)
theorem args_re_Pattern_fullmatch_2 (a b : Value) : argsOk "re.Pattern.fullmatch" ⟨[a, b], []⟩ := by
  unfold argsOk Manifest.signature?; kernel_rfl
theorem slot_re_Pattern_sub : Slot "re.Pattern" "sub" "re.Pattern.sub" :=
  .of (owner := "re.Pattern") (n := "sub") (by rw [typeLookup_type, builtinLookup_eq_fast]; kernel_rfl) (by decide +kernel) (by decide +kernel) (by decide +kernel)
    (by first | exact .inl (by decide +kernel) | exact .inr (by decide +kernel)) (by rw [isSubtype_type]; kernel_rfl)
theorem type_re_Pattern_sub : typeOf (.builtin "re.Pattern.sub") = pure (.type "method_descriptor") := by show builtinType _ = _; rw [builtinType_eq_fast]; kernel_rfl
theorem entry_re_Pattern_sub : entryFor table "re.Pattern.sub" = some Builtin.«re.Pattern.sub» := entryFor_of_tree (by kernel_rfl)
theorem args_re_Pattern_sub_3 (a b c : Value) : argsOk "re.Pattern.sub" ⟨[a, b, c], []⟩ := by
  unfold argsOk Manifest.signature?; kernel_rfl
theorem slot_re_Pattern_subn : Slot "re.Pattern" "subn" "re.Pattern.subn" :=
  .of (owner := "re.Pattern") (n := "subn") (by rw [typeLookup_type, builtinLookup_eq_fast]; kernel_rfl) (by decide +kernel) (by decide +kernel) (by decide +kernel)
    (by first | exact .inl (by decide +kernel) | exact .inr (by decide +kernel)) (by rw [isSubtype_type]; kernel_rfl)
theorem type_re_Pattern_subn : typeOf (.builtin "re.Pattern.subn") = pure (.type "method_descriptor") := by show builtinType _ = _; rw [builtinType_eq_fast]; kernel_rfl
theorem entry_re_Pattern_subn : entryFor table "re.Pattern.subn" = some Builtin.«re.Pattern.subn» := entryFor_of_tree (by kernel_rfl)
theorem args_re_Pattern_subn_3 (a b c : Value) : argsOk "re.Pattern.subn" ⟨[a, b, c], []⟩ := by
  unfold argsOk Manifest.signature?; kernel_rfl
theorem plainAttrs_re_Match : PlainAttrs "re.Match" :=
  ⟨⟨"object.__getattribute__", by rw [typeLookup_type, builtinLookup_eq_fast]; kernel_rfl, F.canon_object_ga⟩, by rw [typeLookup_type, builtinLookup_eq_fast]; kernel_rfl⟩
theorem slot_re_Match_group : Slot "re.Match" "group" "re.Match.group" :=
  .of (owner := "re.Match") (n := "group") (by rw [typeLookup_type, builtinLookup_eq_fast]; kernel_rfl) (by decide +kernel) (by decide +kernel) (by decide +kernel)
    (by first | exact .inl (by decide +kernel) | exact .inr (by decide +kernel)) (by rw [isSubtype_type]; kernel_rfl)
theorem type_re_Match_group : typeOf (.builtin "re.Match.group") = pure (.type "method_descriptor") := by show builtinType _ = _; rw [builtinType_eq_fast]; kernel_rfl
theorem entry_re_Match_group : entryFor table "re.Match.group" = some Builtin.«re.Match.group» := entryFor_of_tree (by kernel_rfl)
theorem args_re_Match_group_2 (a b : Value) : argsOk "re.Match.group" ⟨[a, b], []⟩ := by
  unfold argsOk Manifest.signature?; kernel_rfl
theorem slot_re_Match_span : Slot "re.Match" "span" "re.Match.span" :=
  .of (owner := "re.Match") (n := "span") (by rw [typeLookup_type, builtinLookup_eq_fast]; kernel_rfl) (by decide +kernel) (by decide +kernel) (by decide +kernel)
    (by first | exact .inl (by decide +kernel) | exact .inr (by decide +kernel)) (by rw [isSubtype_type]; kernel_rfl)
theorem type_re_Match_span : typeOf (.builtin "re.Match.span") = pure (.type "method_descriptor") := by show builtinType _ = _; rw [builtinType_eq_fast]; kernel_rfl
theorem entry_re_Match_span : entryFor table "re.Match.span" = some Builtin.«re.Match.span» := entryFor_of_tree (by kernel_rfl)
theorem args_re_Match_span_2 (a b : Value) : argsOk "re.Match.span" ⟨[a, b], []⟩ := by
  unfold argsOk Manifest.signature?; kernel_rfl
end Mine
end
section
namespace Mine
open PySem PySem.Sre PySem.Sre.M
theorem runFor_add (a b : Nat) : ∀ m : M, M.runFor (a + b) m = M.runFor b (M.runFor a m) := by
  induction a with
  | zero => intro m; simp [M.runFor]
  | succ a ih =>
    intro m
    rw [Nat.succ_add]
    by_cases h : m.outcome.isSome = true
    · have e : ∀ n, M.runFor n m = m := by
        intro n; cases n with
        | zero => rfl
        | succ n => simp [M.runFor, h]
      rw [e, e, e]
    · simp only [M.runFor, h, Bool.false_eq_true, if_false]
      exact ih _
theorem runFor_over {m : M} (h : m.outcome.isSome = true) (n : Nat) : M.runFor n m = m := by
  cases n with
  | zero => rfl
  | succ n => simp [M.runFor, h]
noncomputable def Goes (b : Nat) (m m' : M) : Prop := ∃ n, n ≤ b ∧ M.runFor n m = m'
theorem Goes.refl (m : M) : Goes 0 m m := ⟨0, Nat.le_refl _, rfl⟩
theorem Goes.trans {a b : Nat} {m m' m'' : M} (h : Goes a m m') (h' : Goes b m' m'') : Goes (a + b) m m'' := by
  obtain ⟨n, hn, e⟩ := h
  obtain ⟨n', hn', e'⟩ := h'
  exact ⟨n + n', Nat.add_le_add hn hn', by rw [runFor_add, e, e']⟩
theorem Goes.mono {a b : Nat} {m m' : M} (h : Goes a m m') (hb : a ≤ b) : Goes b m m' := let ⟨n, hn, e⟩ := h; ⟨n, Nat.le_trans hn hb, e⟩
theorem Goes.one {m m' : M} (h : m.outcome = none) (e : m.step = m') : Goes 1 m m' := ⟨1, Nat.le_refl _, by simp [M.runFor, h, e]⟩
theorem Goes.then {b : Nat} {m m' m'' : M} (h : m.outcome = none) (e : m.step = m') (g : Goes b m' m'') : Goes (b + 1) m m'' := by
  rw [Nat.add_comm]; exact (Goes.one h e).trans g
noncomputable def Acc (code : Array Nat) (i : Nat) (P : Nat → Bool) : Prop := ∀ c seen, ∃ seen', accepts code i c seen = .ok (P c, seen')
theorem run_spec {code text : Array Nat} {i : Nat} {P : Nat → Bool} (h : Acc code i P) :
    ∀ (u r : List Nat) (n p found : Nat) (seen : Seen), text.toList.drop p = u ++ r → (∀ c ∈ u, P c = true) → (∀ c r', r = c :: r' → P c = false) → n = (u ++ r).length →
      ∃ seen', Sre.run code text i n p found seen = .ok (found + u.length, seen') := by
  intro u
  induction u with
  | nil =>
    intro r n p found seen hd hu hr hn
    cases r with
    | nil => subst hn; exact ⟨seen, rfl⟩
    | cons c r' =>
      subst hn
      have hc : text.getD p 0 = c := by
        have : text.toList[p]? = some c := by
          have := congrArg (fun l => l[0]?) hd
          simpa using this
        rw [Array.getD_eq_getD_getElem?, ← Array.getElem?_toList, this]; rfl
      obtain ⟨seen', e⟩ := h c seen
      refine ⟨seen', ?_⟩
      simp only [List.nil_append, List.length_cons, Sre.run, hc, e, hr c r' rfl]
      rfl
  | cons c u ih =>
    intro r n p found seen hd hu hr hn
    subst hn
    have hc : text.getD p 0 = c := by
      have : text.toList[p]? = some c := by
        have := congrArg (fun l => l[0]?) hd
        simpa using this
      rw [Array.getD_eq_getD_getElem?, ← Array.getElem?_toList, this]; rfl
    obtain ⟨seen₁, e⟩ := h c seen
    have hd' : text.toList.drop (p + 1) = u ++ r := by
      have := congrArg List.tail hd
      simpa [List.tail_drop] using this
    obtain ⟨seen', e'⟩ := ih r (u ++ r).length (p + 1) (found + 1) seen₁ hd' (fun x hx => hu x (.tail _ hx)) hr rfl
    refine ⟨seen', ?_⟩
    simp only [List.cons_append, List.length_cons, Sre.run, hc, e, hu c (.head _)]
    show Sre.run code text i (u ++ r).length (p + 1) (found + 1) seen₁ = _
    rw [e']
    congr 2
    lia
end Mine
end
section
namespace Mine
open PySem PySem.Sre PySem.Sre.M
noncomputable def cTOK : Array Nat := #[14, 4, 0, 1, 4294967295, 6, 0, 24, 9, 0, 4294967295, 13, 4, 8, 12, 0, 1, 17, 0, 24, 19, 1, 4294967295, 13, 14, 21, 9, 0, 671092736, 0, 0, 0, 0, 0, 0, 8, 12, 0, 1, 17, 1, 1]
noncomputable def cQUO : Array Nat := #[14, 4, 0, 3, 4294967295, 6, 0, 24, 9, 0, 4294967295, 13, 4, 8, 12, 0, 1, 16, 61, 24, 9, 0, 4294967295, 13, 4, 8, 12, 0, 1, 16, 34, 17, 0, 24, 12, 0, 4294967295, 13, 7, 21, 16, 34, 16, 92, 0, 1, 23, 19, 0, 4294967295, 16, 92, 2, 24, 12, 0, 4294967295, 13, 7, 21, 16, 34, 16, 92, 0, 1, 18, 17, 1, 16, 34, 1]
noncomputable def cVAL : Array Nat := #[14, 4, 0, 1, 4294967295, 6, 0, 24, 9, 0, 4294967295, 13, 4, 8, 12, 0, 1, 16, 61, 24, 9, 0, 4294967295, 13, 4, 8, 12, 0, 1, 17, 0, 24, 14, 0, 4294967295, 13, 9, 21, 8, 12, 16, 59, 16, 44, 0, 1, 17, 1, 1]
noncomputable def cESC : Array Nat := #[14, 8, 1, 2, 2, 1, 1, 92, 0, 16, 92, 17, 0, 2, 17, 1, 1]
noncomputable def cTW7 : Array Nat := #[14, 4, 0, 0, 4294967295, 6, 0, 24, 13, 0, 4294967295, 13, 8, 16, 61, 8, 12, 16, 59, 0, 1, 1]
noncomputable def cJT : Array Nat := #[14, 4, 0, 1, 4294967295, 24, 16, 1, 4294967295, 13, 11, 9, 0, 67071226, 3355443198, 1476395007, 0, 0, 0, 0, 0, 1, 1]
noncomputable def cJE : Array Nat := #[14, 9, 4, 1, 1, 16, 34, 16, 92, 0, 17, 0, 13, 6, 16, 34, 16, 92, 0, 17, 1, 1]
noncomputable def sp (c : Nat) : Bool := Unicode.isSpace c
noncomputable def tokc (c : Nat) : Bool := !((c == 44 || c == 59 || c == 61) || sp c)
noncomputable def quoc (c : Nat) : Bool := !(c == 34 || c == 92)
noncomputable def valc (c : Nat) : Bool := !(sp c || c == 59 || c == 44)
noncomputable def junk (c : Nat) : Bool := c == 61 || sp c || c == 59
noncomputable def inSetP (code : Array Nat) (c : Nat) : (fuel i : Nat) → (yes : Bool) → Option Bool
  | 0, _, _ => none
  | fuel + 1, i, yes => match ops[code.getD i 0]? with
    | some .FAILURE => some (!yes)
    | some .NEGATE => inSetP code c fuel (i + 1) (!yes)
    | some .LITERAL => if c == code.getD (i + 1) 0 then some yes else inSetP code c fuel (i + 2) yes
    | some .CATEGORY => match category (code.getD (i + 1) 0) c with
      | .ok true => some yes
      | .ok false => inSetP code c fuel (i + 2) yes
      | .error _ => none
    | some .CHARSET => if c < 256 && (code.getD (i + (1 + c / 32)) 0).testBit (c % 32) then some yes else inSetP code c fuel (i + 9) yes
    | _ => none
theorem inSet_of {code : Array Nat} {c : Nat} : ∀ (fuel i : Nat) (yes b : Bool), inSetP code c fuel i yes = some b → ∀ seen, ∃ seen', inSet code c fuel i yes seen = .ok (b, seen') := by
  intro fuel
  induction fuel with
  | zero => intro i yes b h; cases h
  | succ fuel ih =>
    intro i yes b h seen
    unfold inSetP at h
    unfold inSet
    simp only [Nat.add_zero]
    split at h
    · rename_i e; rw [e]; cases h; exact ⟨_, rfl⟩
    · rename_i e; rw [e]; exact ih _ _ _ h _
    · rename_i e; rw [e]
      split at h
      · rename_i e2; cases h; exact ⟨_, by simp only [e2, if_true]; rfl⟩
      · rename_i e2; obtain ⟨s', q⟩ := ih _ _ _ h (seen.add (code.getD i 0)); exact ⟨s', by simp only [e2, Bool.false_eq_true, if_false]; exact q⟩
    · rename_i e; rw [e]
      split at h
      · rename_i e2; cases h; rw [e2]; exact ⟨_, rfl⟩
      · rename_i e2; rw [e2]; exact ih _ _ _ h _
      · cases h
    · rename_i e; rw [e]
      split at h
      · rename_i e2; cases h; exact ⟨_, by simp only [e2, if_true]; rfl⟩
      · rename_i e2; obtain ⟨s', q⟩ := ih _ _ _ h (seen.add (code.getD i 0)); exact ⟨s', by simp only [e2, Bool.false_eq_true, if_false]; exact q⟩
    · cases h
theorem acc_of {code : Array Nat} {i : Nat} {P : Nat → Bool} (h0 : code.getD i 0 = 13) (h : ∀ c, inSetP code c code.size (i + 2) true = some (P c)) : Acc code i P := by
  intro c seen
  unfold accepts
  rw [h0]
  exact inSet_of _ _ _ _ (h c) seen
theorem cat12 (c : Nat) : category 12 c = .ok (sp c) := by
  show Except.ok (sp c != false) = _
  cases sp c <;> rfl
theorem acc_sp {code : Array Nat} {i : Nat} (h0 : code.getD i 0 = 13) (h : ∀ c, inSetP code c code.size (i + 2) true = match category 12 c with | .ok true => some true | .ok false => some false | .error _ => none) : Acc code i sp :=
  acc_of h0 fun c => by rw [h, cat12]; cases sp c <;> rfl
theorem acc_tok_sp : Acc cTOK 11 sp := acc_sp rfl fun _ => rfl
theorem acc_quo_sp : Acc cQUO 11 sp := acc_sp rfl fun _ => rfl
theorem acc_quo_sp2 : Acc cQUO 23 sp := acc_sp rfl fun _ => rfl
theorem acc_val_sp : Acc cVAL 11 sp := acc_sp rfl fun _ => rfl
theorem acc_val_sp2 : Acc cVAL 23 sp := acc_sp rfl fun _ => rfl
noncomputable def charsetTok (c : Nat) : Bool := c < 256 && (cTOK.getD (26 + (1 + c / 32)) 0).testBit (c % 32)
theorem charsetTok_eq (c : Nat) : charsetTok c = (c == 44 || c == 59 || c == 61) := by
  by_cases h : c < 256
  · have : ∀ c : Fin 256, charsetTok c.val = (c.val == 44 || c.val == 59 || c.val == 61) := by decide +kernel
    exact this ⟨c, h⟩
  · have h1 : (c == 44) = false := by simp; lia
    have h2 : (c == 59) = false := by simp; lia
    have h3 : (c == 61) = false := by simp; lia
    simp [charsetTok, h, h1, h2, h3]
theorem acc_tok : Acc cTOK 23 tokc := acc_of rfl fun c => by
  show (if charsetTok c = true then some false else match category 12 c with | .ok true => some false | .ok false => some true | .error _ => none) = _
  rw [charsetTok_eq, cat12, tokc]
  cases (c == 44 || c == 59 || c == 61) <;> cases sp c <;> rfl
theorem acc_quo : Acc cQUO 37 quoc := acc_of rfl fun c => by
  show (if (c == 34) = true then some false else if (c == 92) = true then some false else some true) = _
  rw [quoc]
  cases (c == 34) <;> cases (c == 92) <;> rfl
theorem acc_val : Acc cVAL 35 valc := acc_of rfl fun c => by
  show (match category 12 c with | .ok true => some false | .ok false => (if (c == 59) = true then some false else if (c == 44) = true then some false else some true) | .error _ => none) = _
  rw [valc, cat12]
  cases sp c <;> cases (c == 59) <;> cases (c == 44) <;> rfl
theorem acc_junk : Acc cTW7 11 junk := acc_of rfl fun c => by
  show (if (c == 61) = true then some true else match category 12 c with | .ok true => some true | .ok false => (if (c == 59) = true then some true else some false) | .error _ => none) = _
  rw [junk, cat12]
  cases sp c <;> cases (c == 59) <;> cases (c == 61) <;> rfl
end Mine
end
section
namespace Mine
open PySem PySem.Sre PySem.Sre.M
noncomputable abbrev mkS (code text : Array Nat) (ls : Nat) (ma : Bool) (start pc pos handed : Nat) (om : Bool) (marks : Array (Option Nat)) (lm li : Int) (loops : Array Loop) (inner : Option Nat) (frames : List PySem.Sre.Frame) (weight : Nat) (answer : Option Bool) (seen : Seen) : M :=
  { code, text, lim := text.size, start, lastStart := ls, wholeText := false, mustAdvance := ma, pc, pos, handed, outermost := om, marks, lastmark := lm, lastindex := li, loops, inner, frames, weight, answer, seen, outcome := none }
theorem getD_of_drop {text : Array Nat} {p c : Nat} {r : List Nat} (hd : text.toList.drop p = c :: r) : text.getD p 0 = c := by
  have : text.toList[p]? = some c := by
    have := congrArg (fun l => l[0]?) hd
    simpa using this
  rw [Array.getD_eq_getD_getElem?, ← Array.getElem?_toList, this]; rfl
theorem lt_of_drop {text : Array Nat} {p c : Nat} {r : List Nat} (hd : text.toList.drop p = c :: r) : p < text.size := by
  have : (text.toList.drop p).length = (c :: r).length := by rw [hd]
  simp at this
  lia
theorem drop_app {text : Array Nat} {p : Nat} {u r : List Nat} (hd : text.toList.drop p = u ++ r) : text.toList.drop (p + u.length) = r := by
  rw [← List.drop_drop, hd, List.drop_left]
theorem size_of_drop {text : Array Nat} {p : Nat} {l : List Nat} (hp : p ≤ text.size) (hd : text.toList.drop p = l) : text.size = p + l.length := by
  have : (text.toList.drop p).length = l.length := by rw [hd]
  simp at this
  lia
theorem step_none {m : M} (ho : m.outcome = none) (ha : m.answer = none) (hpc : m.pc < m.code.size) : m.step = m.exec := by
  unfold M.step
  rw [ho, ha]
  simp [hpc]
theorem step_some {m : M} {yes : Bool} {f : PySem.Sre.Frame} {fs : List PySem.Sre.Frame} (ho : m.outcome = none) (ha : m.answer = some yes) (hf : m.frames = f :: fs) :
    m.step = resume { m with answer := none, frames := fs, weight := m.weight - (1 + f.kept.marks.size), pc := f.pc, pos := f.pos, outermost := f.outermost } f yes := by
  unfold M.step
  rw [ho, ha, hf]
  simp
theorem step_lit {m : M} {c : Nat} {r : List Nat} (ho : m.outcome = none) (ha : m.answer = none) (hpc : m.pc < m.code.size) (hop : m.code.getD m.pc 0 = 16) (hl : m.lim = m.text.size)
    (hd : m.text.toList.drop m.pos = c :: r) (hc : c = m.code.getD (m.pc + 1) 0) : m.step = { m with seen := m.seen.add 16, pc := m.pc + 2, pos := m.pos + 1 } := by
  rw [step_none ho ha hpc]
  have h1 := lt_of_drop hd
  have h2 := getD_of_drop hd
  have hw : m.word 0 = 16 := hop
  unfold M.exec
  rw [hw]
  show (if _ then _ else _) = _
  rw [if_neg (by show ¬ (m.pos ≥ m.lim); lia)]
  show (match accepts m.code m.pc (m.text.getD m.pos 0) (m.seen.add 16) with | .error why => _ | .ok (false, seen) => _ | .ok (true, seen) => _) = _
  rw [h2]
  have : accepts m.code m.pc c (m.seen.add 16) = .ok (true, m.seen.add 16) := by
    unfold accepts
    rw [hop]
    show Except.ok (c == m.code.getD (m.pc + 1) 0, _) = _
    rw [hc]; simp
  rw [this]
  have hiw : itemWidth m.code m.pc = 2 := by unfold itemWidth; rw [hop]; rfl
  simp only [hiw]
theorem step_lit_no {m : M} {c : Nat} {r : List Nat} (ho : m.outcome = none) (ha : m.answer = none) (hpc : m.pc < m.code.size) (hop : m.code.getD m.pc 0 = 16) (hl : m.lim = m.text.size)
    (hd : m.text.toList.drop m.pos = c :: r) (hc : c ≠ m.code.getD (m.pc + 1) 0) : m.step = { m with seen := m.seen.add 16, answer := some false } := by
  rw [step_none ho ha hpc]
  have h1 := lt_of_drop hd
  have h2 := getD_of_drop hd
  have hw : m.word 0 = 16 := hop
  unfold M.exec
  rw [hw]
  show (if _ then _ else _) = _
  rw [if_neg (by show ¬ (m.pos ≥ m.lim); lia)]
  show (match accepts m.code m.pc (m.text.getD m.pos 0) (m.seen.add 16) with | .error why => _ | .ok (false, seen) => _ | .ok (true, seen) => _) = _
  rw [h2]
  have : accepts m.code m.pc c (m.seen.add 16) = .ok (false, m.seen.add 16) := by
    unfold accepts
    rw [hop]
    show Except.ok (c == m.code.getD (m.pc + 1) 0, _) = _
    have : (c == m.code.getD (m.pc + 1) 0) = false := by simpa using hc
    rw [this]
  rw [this]
  rfl
theorem step_rep {m : M} {P : Nat → Bool} {u r : List Nat} (ho : m.outcome = none) (ha : m.answer = none) (hpc : m.pc < m.code.size) (hop : m.code.getD m.pc 0 = 24) (hl : m.lim = m.text.size)
    (hp : m.pos ≤ m.text.size) (hacc : Acc m.code (m.pc + 4) P) (hd : m.text.toList.drop m.pos = u ++ r) (hu : ∀ c ∈ u, P c = true) (hr : ∀ c r', r = c :: r' → P c = false)
    (hmax : m.code.getD (m.pc + 3) 0 = 4294967295) (hs : m.text.size < 4294967295) (hmin : m.code.getD (m.pc + 2) 0 ≤ u.length) (hi : m.inner = none) :
    ∃ seen', m.step = ({ m with seen := seen', pos := m.pos + u.length } : M).afterRun .giveBack u.length { lastmark := m.lastmark, lastindex := m.lastindex } := by
  rw [step_none ho ha hpc]
  have hsz := size_of_drop hp hd
  obtain ⟨seen', hrun⟩ := run_spec hacc u r (u ++ r).length m.pos 0 ((m.seen.add 24).add (m.word 4)) hd hu hr rfl
  refine ⟨seen', ?_⟩
  have hw : m.word 0 = 24 := hop
  have hroom : ((m.lim : Int) - (m.pos : Int)).toNat = (u ++ r).length := by rw [hl, hsz]; lia
  have hmn : min (m.word 3) ((m.lim : Int) - (m.pos : Int)).toNat = (u ++ r).length := by
    have : m.word 3 = 4294967295 := hmax
    rw [this, hroom]; lia
  unfold M.exec
  rw [hw]
  show (if _ then _ else _) = _
  have h2 : m.word 2 ≤ u.length := hmin
  rw [if_neg (by
    show ¬ ((m.word 2 : Int) > (m.lim : Int) - (m.pos : Int))
    have : (u ++ r).length = u.length + r.length := List.length_append
    rw [hl, hsz]; lia)]
  show (match Sre.run m.code m.text (m.pc + 4) (min (m.word 3) ((m.lim : Int) - (m.pos : Int)).toNat) m.pos 0 ((m.seen.add 24).add (m.word 4)) with | .error why => _ | .ok (n, seen) => _) = _
  rw [hmn, hrun]
  show (if _ then _ else _) = _
  rw [if_neg (by show ¬ (0 + u.length < m.word 2); lia)]
  show M.afterRun _ _ ((0 + u.length : Nat) : Int) _ = _
  simp only [Nat.zero_add, M.keep, hi, Option.isSome_none, Bool.false_eq_true, if_false]
  rfl
theorem step_rep_no {m : M} {P : Nat → Bool} {r : List Nat} (ho : m.outcome = none) (ha : m.answer = none) (hpc : m.pc < m.code.size) (hop : m.code.getD m.pc 0 = 24) (hl : m.lim = m.text.size)
    (hp : m.pos ≤ m.text.size) (hacc : Acc m.code (m.pc + 4) P) (hd : m.text.toList.drop m.pos = r) (hr : ∀ c r', r = c :: r' → P c = false)
    (hmax : m.code.getD (m.pc + 3) 0 = 4294967295) (hs : m.text.size < 4294967295) (hmin : m.code.getD (m.pc + 2) 0 = 1) :
    ∃ seen', m.step = { m with seen := seen', answer := some false } := by
  rw [step_none ho ha hpc]
  have hsz := size_of_drop hp hd
  obtain ⟨seen', hrun⟩ := run_spec hacc [] r r.length m.pos 0 ((m.seen.add 24).add (m.word 4)) hd (fun c h => nomatch h) hr rfl
  have hw : m.word 0 = 24 := hop
  have h2 : m.word 2 = 1 := hmin
  have hroom : ((m.lim : Int) - (m.pos : Int)).toNat = r.length := by rw [hl, hsz]; lia
  have hmn : min (m.word 3) ((m.lim : Int) - (m.pos : Int)).toNat = r.length := by
    have : m.word 3 = 4294967295 := hmax
    rw [this, hroom]; lia
  unfold M.exec
  rw [hw]
  by_cases hz : r.length = 0
  · refine ⟨m.seen.add 24, ?_⟩
    show (if _ then _ else _) = _
    rw [if_pos (by
      show ((m.word 2 : Int) > (m.lim : Int) - (m.pos : Int))
      rw [h2, hl, hsz]; lia)]
    rfl
  · refine ⟨seen', ?_⟩
    show (if _ then _ else _) = _
    rw [if_neg (by
      show ¬ ((m.word 2 : Int) > (m.lim : Int) - (m.pos : Int))
      rw [h2, hl, hsz]; lia)]
    show (match Sre.run m.code m.text (m.pc + 4) (min (m.word 3) ((m.lim : Int) - (m.pos : Int)).toNat) m.pos 0 ((m.seen.add 24).add (m.word 4)) with | .error why => _ | .ok (n, seen) => _) = _
    rw [hmn, hrun]
    show (if _ then _ else _) = _
    rw [if_pos (by show (0 + 0 < m.word 2); lia)]
    rfl
end Mine
end
section
namespace Mine
open PySem PySem.Sre PySem.Sre.M
theorem step_out {m : M} {yes : Bool} (ho : m.outcome = none) (ha : m.answer = some yes) (hf : m.frames = []) : m.step = { m with outcome := some (if yes then .matched else .failed) } := by
  unfold M.step
  rw [ho, ha, hf]
  simp
theorem attemptFrom_at {m : M} {p : Nat} {first : Bool} (h : m.hasFirstSet = false) : m.attemptFrom p first = m.attemptAt p first := by
  unfold attemptFrom
  rw [h]; rfl
theorem fail_rest {code : Array Nat} (h5 : code.getD 5 0 = 6) (h6 : code.getD 6 0 = 0) (hsz : 6 < code.size) (hfs : ((match ops[code.getD 0 0]? with | some .INFO => true | _ => false) && code.getD 2 0 == 4) = false) :
    ∀ (d : Nat) (m : M) (f : PySem.Sre.Frame), m.code = code → m.outcome = none → m.answer = some false → m.frames = [f] → f.wait = .nextStart → f.pc = 5 → f.kept.marks = #[] → m.weight ≤ 1 → m.lastStart = f.pos + d →
      ∃ m', Goes (2 * d + 2) m m' ∧ m'.outcome = some .failed := by
  intro d
  induction d with
  | zero =>
    intro m f hc ho ha hf hw hpc hk hwt hd
    have e1 := step_some ho ha hf
    have e2 : m.step = ({ m with answer := none, frames := [], weight := m.weight - (1 + f.kept.marks.size), pc := f.pc, pos := f.pos, outermost := f.outermost } : M).say false := by
      rw [e1]
      unfold PySem.Sre.M.resume
      rw [hw]
      show (if false = true then _ else if f.pos < m.lastStart then _ else _) = _
      rw [if_neg Bool.false_ne_true, if_neg (by lia)]
    exact ⟨_, Goes.then ho e2 (Goes.one ho (step_out ho rfl rfl)), rfl⟩
  | succ d ih =>
    intro m f hc ho ha hf hw hpc hk hwt hd
    have e1 := step_some ho ha hf
    have hkz : f.kept.marks.size = 0 := by rw [hk]; rfl
    have hns : M.hasFirstSet m = false := by unfold M.hasFirstSet; rw [hc]; exact hfs
    have hcode : ∀ (x : M) (p : Nat) (first : Bool), x.code = m.code → x.attemptFrom p first = x.attemptAt p first := fun x p first hx => attemptFrom_at (by unfold M.hasFirstSet; rw [hx, hc]; exact hfs)
    have e2 : m.step = ({ m with answer := none, frames := [{ wait := .nextStart, pc := 5, pos := f.pos + 1, outermost := false }], weight := 1, pc := 5, pos := f.pos + 1, handed := f.pos + 1, outermost := false, mustAdvance := false, start := f.pos + 1, lastmark := -1, lastindex := -1 } : M) := by
      rw [e1]
      unfold PySem.Sre.M.resume
      rw [hw]
      show (if false = true then _ else if f.pos < m.lastStart then _ else _) = _
      rw [if_neg Bool.false_ne_true, if_pos (by lia)]
      refine Eq.trans (hcode _ _ _ (by exact rfl)) ?_
      unfold attemptAt attempt
      have hwz : m.weight - (1 + f.kept.marks.size) = 0 := by lia
      rw [if_neg (by show ¬ (m.weight - (1 + f.kept.marks.size) + 1 + 0 > 16777216); lia)]
      show ({ m with answer := none, frames := [{ wait := .nextStart, pc := f.pc, pos := f.pos + 1, outermost := false }], weight := m.weight - (1 + f.kept.marks.size) + 1 + 0, pc := f.pc, pos := f.pos + 1, handed := f.pos + 1, outermost := false, mustAdvance := false, start := f.pos + 1, lastmark := -1, lastindex := -1 } : M) = _
      rw [hwz, hpc]
    generalize hm1 : ({ m with answer := none, frames := [{ wait := .nextStart, pc := 5, pos := f.pos + 1, outermost := false }], weight := 1, pc := 5, pos := f.pos + 1, handed := f.pos + 1, outermost := false, mustAdvance := false, start := f.pos + 1, lastmark := -1, lastindex := -1 } : M) = m1 at e2
    have a1 : m1.code = code := by rw [← hm1]; exact hc
    have a2 : m1.outcome = none := by rw [← hm1]; exact ho
    have a3 : m1.answer = none := by rw [← hm1]
    have a4 : m1.pc = 5 := by rw [← hm1]
    have a5 : m1.pos = f.pos + 1 := by rw [← hm1]
    have a6 : m1.frames = [{ wait := .nextStart, pc := 5, pos := f.pos + 1, outermost := false }] := by rw [← hm1]
    have a7 : m1.weight = 1 := by rw [← hm1]
    have a8 : m1.lastStart = m.lastStart := by rw [← hm1]
    have e3 : m1.step = { m1 with seen := (m1.seen.add 6).add 43, answer := some false } := by
      rw [step_none a2 a3 (by rw [a1, a4]; lia)]
      have hw0 : m1.word 0 = 6 := by show m1.code.getD (m1.pc + 0) 0 = 6; rw [a1, a4]; exact h5
      have hw1 : m1.code.getD (m1.pc + 1) 0 = 0 := by rw [a1, a4]; exact h6
      unfold M.exec
      rw [hw0]
      show (match ({ m1 with seen := m1.seen.add 6 } : M).isAt (m1.code.getD (m1.pc + 1) 0) with | .error why => _ | .ok yes => _) = _
      rw [hw1]
      show (if (m1.pos == 0) = true then _ else _) = _
      rw [if_neg (by rw [a5]; simp)]
      show ({ m1 with seen := (m1.seen.add 6).add (43 + m1.code.getD (m1.pc + 1) 0), answer := some false } : M) = _
      rw [hw1]
    obtain ⟨m', g, h'⟩ := ih { m1 with seen := (m1.seen.add 6).add 43, answer := some false } { wait := .nextStart, pc := 5, pos := f.pos + 1, outermost := false } a1 a2 rfl a6 rfl rfl rfl (by show m1.weight ≤ 1; lia) (by show m1.lastStart = _; rw [a8, hd]; show f.pos + (d + 1) = f.pos + 1 + d; lia)
    exact ⟨m', (Goes.then ho e2 (Goes.then a2 e3 g)).mono (by lia), h'⟩
end Mine
end
section
set_option maxRecDepth 20000
namespace Mine
open PySem PySem.Sre PySem.Sre.M
noncomputable abbrev fNS : PySem.Sre.Frame := { wait := .nextStart, pc := 5, pos := 0, outermost := true }
structure Found (m : M) (b e : Nat) (marks : Array (Option Nat)) (lm li : Int) : Prop where
  out : m.outcome = some .matched
  start : m.start = b
  handed : m.handed = e
  marks : m.marks = marks
  lm : m.lastmark = lm
  li : m.lastindex = li
theorem start_tok {text : Array Nat} (h : 1 ≤ text.size) : forSearch cTOK text 1 0 text.size false = mkS cTOK text text.size false 0 5 0 0 true #[none, none] (-1) (-1) #[] none [fNS] 1 none (({} : Seen).add 14) := by
  unfold forSearch
  show (if (decide (0 > text.size) || decide (text.size - 0 < 1)) = true then _ else _) = _
  rw [if_neg (by rw [Bool.or_eq_true, decide_eq_true_eq, decide_eq_true_eq]; lia)]
  rfl
theorem start_val {text : Array Nat} (h : 1 ≤ text.size) : forSearch cVAL text 1 0 text.size false = mkS cVAL text text.size false 0 5 0 0 true #[none, none] (-1) (-1) #[] none [fNS] 1 none (({} : Seen).add 14) := by
  unfold forSearch
  show (if (decide (0 > text.size) || decide (text.size - 0 < 1)) = true then _ else _) = _
  rw [if_neg (by rw [Bool.or_eq_true, decide_eq_true_eq, decide_eq_true_eq]; lia)]
  rfl
theorem start_quo {text : Array Nat} (h : 3 ≤ text.size) : forSearch cQUO text 1 0 text.size false = mkS cQUO text (max 0 (text.size - 2)) false 0 5 0 0 true #[none, none] (-1) (-1) #[] none [fNS] 1 none (({} : Seen).add 14) := by
  unfold forSearch
  show (if (decide (0 > text.size) || decide (text.size - 0 < 3)) = true then _ else _) = _
  rw [if_neg (by rw [Bool.or_eq_true, decide_eq_true_eq, decide_eq_true_eq]; lia)]
  rfl
theorem start_tw7 {text : Array Nat} (ma : Bool) : forSearch cTW7 text 0 0 text.size ma = mkS cTW7 text text.size ma 0 5 0 0 true #[] (-1) (-1) #[] none [fNS] 1 none (({} : Seen).add 14) := by
  unfold forSearch
  show (if (decide (0 > text.size) || decide (text.size - 0 < 0)) = true then _ else _) = _
  rw [if_neg (by rw [Bool.or_eq_true, decide_eq_true_eq, decide_eq_true_eq]; lia)]
  rfl
example {text : Array Nat} {ls : Nat} {sn : Seen} : (mkS cTOK text ls false 0 5 0 0 true #[none, none] (-1) (-1) #[] none [fNS] 1 none sn).step = mkS cTOK text ls false 0 7 0 0 true #[none, none] (-1) (-1) #[] none [fNS] 1 none ((sn.add 6).add 43) := rfl
noncomputable def Hits (b : Nat) (m : M) (Φ : M → Prop) : Prop := ∃ m', Goes b m m' ∧ Φ m'
theorem Hits.step {b : Nat} {m m' : M} {Φ : M → Prop} (e : m.step = m') (h : Hits b m' Φ) (ho : m.outcome = none := by rfl) : Hits (b + 1) m Φ :=
  let ⟨x, g, p⟩ := h; ⟨x, Goes.then ho e g, p⟩
theorem Hits.done {m : M} {Φ : M → Prop} (h : Φ m) : Hits 0 m Φ := ⟨m, Goes.refl m, h⟩
theorem Hits.mono {a b : Nat} {m : M} {Φ : M → Prop} (h : Hits a m Φ) (hb : a ≤ b) : Hits b m Φ := let ⟨x, g, p⟩ := h; ⟨x, g.mono hb, p⟩
theorem sp_of_tok {c : Nat} (h : tokc c = true) : sp c = false := by
  unfold tokc at h
  cases hq : sp c with
  | false => rfl
  | true => rw [hq] at h; simp at h
theorem sp_of_val {c : Nat} (h : valc c = true) : sp c = false := by
  unfold valc at h
  cases hq : sp c with
  | false => rfl
  | true => rw [hq] at h; simp at h
noncomputable abbrev fGB (pc pos : Nat) (count : Int) (lm li : Int) : PySem.Sre.Frame := { wait := .giveBack, pc, pos, outermost := true, count, kept := { lastmark := lm, lastindex := li } }
theorem tok_hit {text : Array Nat} {ws u r : List Nat} (ht : text.toList = ws ++ (u ++ r)) (hw : ∀ c ∈ ws, sp c = true) (hu : ∀ c ∈ u, tokc c = true) (h1 : u ≠ []) (hr : ∀ c r', r = c :: r' → tokc c = false) (hs : text.size < 4294967295) :
    Hits 12 (forSearch cTOK text 1 0 text.size false) fun m => Found m 0 (ws.length + u.length) #[some ws.length, some (ws.length + u.length)] 1 1 := by
  have hsz : text.size = ws.length + (u.length + r.length) := by rw [← Array.length_toList, ht, List.length_append, List.length_append]
  have hu0 : 1 ≤ u.length := List.length_pos_iff.mpr h1
  have hd1 : text.toList.drop 0 = ws ++ (u ++ r) := by simpa using ht
  have hd2 : text.toList.drop ws.length = u ++ r := by rw [ht, List.drop_left]
  rw [start_tok (by lia)]
  generalize ({} : Seen).add 14 = sn
  refine Hits.step (m' := mkS cTOK text text.size false 0 7 0 0 true #[none, none] (-1) (-1) #[] none [fNS] 1 none ((sn.add 6).add 43)) rfl ?_
  generalize (sn.add 6).add 43 = sn
  obtain ⟨s2, e2⟩ := step_rep (m := mkS cTOK text text.size false 0 7 0 0 true #[none, none] (-1) (-1) #[] none [fNS] 1 none sn) (P := sp) (u := ws) (r := u ++ r) rfl rfl (Nat.le_of_ble_eq_true rfl) rfl rfl (Nat.zero_le _) acc_tok_sp hd1 hw
      (by
        intro c r' e
        cases u with
        | nil => exact absurd rfl h1
        | cons x u' => cases e; exact sp_of_tok (hu c (.head _))) rfl hs (Nat.zero_le _) rfl
  refine Hits.step (m' := mkS cTOK text text.size false 0 17 (0 + ws.length) (0 + ws.length) true #[none, none] (-1) (-1) #[] none [fGB 7 (0 + ws.length) ws.length (-1) (-1), fNS] 2 none s2) e2 ?_
  rw [Nat.zero_add]
  refine Hits.step (m' := mkS cTOK text text.size false 0 19 ws.length ws.length true #[some ws.length, none] 0 (-1) #[] none [fGB 7 ws.length ws.length (-1) (-1), fNS] 2 none (s2.add 17)) rfl ?_
  generalize s2.add 17 = sn
  obtain ⟨s3, e3⟩ := step_rep (m := mkS cTOK text text.size false 0 19 ws.length ws.length true #[some ws.length, none] 0 (-1) #[] none [fGB 7 ws.length ws.length (-1) (-1), fNS] 2 none sn) (P := tokc) (u := u) (r := r) rfl rfl (Nat.le_of_ble_eq_true rfl) rfl rfl (by show ws.length ≤ text.size; lia) acc_tok hd2 hu hr rfl hs hu0 rfl
  refine Hits.step (m' := mkS cTOK text text.size false 0 39 (ws.length + u.length) (ws.length + u.length) true #[some ws.length, none] 0 (-1) #[] none [fGB 19 (ws.length + u.length) u.length 0 (-1), fGB 7 ws.length ws.length (-1) (-1), fNS] 3 none s3) e3 ?_
  generalize ws.length + u.length = e
  refine Hits.step (m' := mkS cTOK text text.size false 0 41 e e true #[some ws.length, some e] 1 1 #[] none [fGB 19 e u.length 0 (-1), fGB 7 ws.length ws.length (-1) (-1), fNS] 3 none (s3.add 17)) (by
    rw [step_none rfl rfl (Nat.le_of_ble_eq_true rfl)]
    show M.mark _ 1 = _
    unfold M.mark
    rfl) ?_
  generalize s3.add 17 = sn
  refine Hits.step (m' := mkS cTOK text text.size false 0 41 e e true #[some ws.length, some e] 1 1 #[] none [fGB 19 e u.length 0 (-1), fGB 7 ws.length ws.length (-1) (-1), fNS] 3 (some true) (sn.add 1)) rfl ?_
  generalize sn.add 1 = sn
  refine Hits.step rfl (Hits.step rfl (Hits.step rfl (Hits.step rfl (Hits.done (Φ := fun m => Found m 0 e #[some ws.length, some e] 1 1) ⟨rfl, rfl, rfl, rfl, rfl, rfl⟩)))) |>.mono (by decide)
end Mine
end
section
set_option maxRecDepth 20000
namespace Mine
open PySem PySem.Sre PySem.Sre.M
noncomputable def Failed (m : M) : Prop := m.outcome = some .failed
theorem hits_fail {code text : Array Nat} {ls : Nat} {ma : Bool} {start pc pos handed : Nat} {om : Bool} {marks : Array (Option Nat)} {lm li : Int} {sn : Seen} {b : Nat} (p : Nat) (o : Bool)
    (h5 : code.getD 5 0 = 6) (h6 : code.getD 6 0 = 0) (hsz : 6 < code.size) (hfs : ((match ops[code.getD 0 0]? with | some .INFO => true | _ => false) && code.getD 2 0 == 4) = false)
    (hp : p ≤ ls) (hb : 2 * (ls - p) + 2 ≤ b) :
    Hits b (mkS code text ls ma start pc pos handed om marks lm li #[] none [{ wait := .nextStart, pc := 5, pos := p, outermost := o }] 1 (some false) sn) Failed := by
  obtain ⟨m', g, h⟩ := fail_rest h5 h6 hsz hfs (ls - p) (mkS code text ls ma start pc pos handed om marks lm li #[] none [{ wait := .nextStart, pc := 5, pos := p, outermost := o }] 1 (some false) sn) { wait := .nextStart, pc := 5, pos := p, outermost := o } rfl rfl rfl rfl rfl rfl rfl (Nat.le_refl _)
    (by show ls = p + (ls - p); lia)
  exact ⟨m', g.mono hb, h⟩
theorem tok_miss {text : Array Nat} {c : Nat} {r : List Nat} (ht : text.toList = c :: r) (h1 : sp c = false) (h2 : tokc c = false) (hs : text.size < 4294967295) :
    Hits (2 * text.size + 20) (forSearch cTOK text 1 0 text.size false) Failed := by
  have hsz : text.size = r.length + 1 := by rw [← Array.length_toList, ht]; rfl
  have hd1 : text.toList.drop 0 = [] ++ (c :: r) := by simpa using ht
  rw [start_tok (by lia)]
  generalize ({} : Seen).add 14 = sn
  refine (Hits.step (b := 2 * text.size + 10) (m' := mkS cTOK text text.size false 0 7 0 0 true #[none, none] (-1) (-1) #[] none [fNS] 1 none ((sn.add 6).add 43)) rfl ?_).mono (by lia)
  generalize (sn.add 6).add 43 = sn
  obtain ⟨s2, e2⟩ := step_rep (m := mkS cTOK text text.size false 0 7 0 0 true #[none, none] (-1) (-1) #[] none [fNS] 1 none sn) (P := sp) (u := []) (r := c :: r) rfl rfl (Nat.le_of_ble_eq_true rfl) rfl rfl (Nat.zero_le _) acc_tok_sp hd1 (fun _ h => nomatch h)
      (by intro c' r' e; cases e; exact h1) rfl hs (Nat.zero_le _) rfl
  refine (Hits.step (b := 2 * text.size + 9) (m' := mkS cTOK text text.size false 0 17 0 0 true #[none, none] (-1) (-1) #[] none [fGB 7 0 0 (-1) (-1), fNS] 2 none s2) e2 ?_)
  refine (Hits.step (b := 2 * text.size + 8) (m' := mkS cTOK text text.size false 0 19 0 0 true #[some 0, none] 0 (-1) #[] none [fGB 7 0 0 (-1) (-1), fNS] 2 none (s2.add 17)) rfl ?_)
  generalize s2.add 17 = sn
  obtain ⟨s3, e3⟩ := step_rep_no (m := mkS cTOK text text.size false 0 19 0 0 true #[some 0, none] 0 (-1) #[] none [fGB 7 0 0 (-1) (-1), fNS] 2 none sn) (P := tokc) (r := c :: r) rfl rfl (Nat.le_of_ble_eq_true rfl) rfl rfl (Nat.zero_le _) acc_tok hd1
      (by intro c' r' e; cases e; exact h2) rfl hs rfl
  refine (Hits.step (b := 2 * text.size + 7) (m' := mkS cTOK text text.size false 0 19 0 0 true #[some 0, none] 0 (-1) #[] none [fGB 7 0 0 (-1) (-1), fNS] 2 (some false) s3) e3 ?_)
  refine (Hits.step (b := 2 * text.size + 6) (m' := mkS cTOK text text.size false 0 7 0 0 true #[some 0, none] (-1) (-1) #[] none [fNS] 1 (some false) s3) rfl ?_)
  exact hits_fail 0 true rfl rfl (Nat.le_of_ble_eq_true rfl) rfl (Nat.zero_le _) (by lia)
theorem val_hit {text : Array Nat} {u r : List Nat} (ht : text.toList = 61 :: (u ++ r)) (hu : ∀ c ∈ u, valc c = true) (h1 : u ≠ []) (hr : ∀ c r', r = c :: r' → valc c = false) (hs : text.size < 4294967295) :
    Hits 16 (forSearch cVAL text 1 0 text.size false) fun m => Found m 0 (1 + u.length) #[some 1, some (1 + u.length)] 1 1 := by
  have hsz : text.size = u.length + r.length + 1 := by rw [← Array.length_toList, ht, List.length_cons, List.length_append]
  have hd1 : text.toList.drop 0 = [] ++ (61 :: (u ++ r)) := by simpa using ht
  have hd2 : text.toList.drop 1 = [] ++ (u ++ r) := by rw [ht]; rfl
  have hd3 : text.toList.drop 1 = u ++ r := by rw [ht]; rfl
  rw [start_val (by lia)]
  generalize ({} : Seen).add 14 = sn
  refine Hits.step (m' := mkS cVAL text text.size false 0 7 0 0 true #[none, none] (-1) (-1) #[] none [fNS] 1 none ((sn.add 6).add 43)) rfl ?_
  generalize (sn.add 6).add 43 = sn
  obtain ⟨s2, e2⟩ := step_rep (m := mkS cVAL text text.size false 0 7 0 0 true #[none, none] (-1) (-1) #[] none [fNS] 1 none sn) (P := sp) (u := []) (r := 61 :: (u ++ r)) rfl rfl (Nat.le_of_ble_eq_true rfl) rfl rfl (Nat.zero_le _) acc_val_sp hd1 (fun _ h => nomatch h)
      (by intro c r' e; cases e; decide +kernel) rfl hs (Nat.zero_le _) rfl
  refine Hits.step (m' := mkS cVAL text text.size false 0 17 0 0 true #[none, none] (-1) (-1) #[] none [fGB 7 0 0 (-1) (-1), fNS] 2 none s2) e2 ?_
  refine Hits.step (m' := mkS cVAL text text.size false 0 19 1 0 true #[none, none] (-1) (-1) #[] none [fGB 7 0 0 (-1) (-1), fNS] 2 none (s2.add 16)) (step_lit (c := 61) (r := u ++ r) rfl rfl (Nat.le_of_ble_eq_true rfl) rfl rfl hd1 rfl) ?_
  generalize s2.add 16 = sn
  obtain ⟨s3, e3⟩ := step_rep (m := mkS cVAL text text.size false 0 19 1 0 true #[none, none] (-1) (-1) #[] none [fGB 7 0 0 (-1) (-1), fNS] 2 none sn) (P := sp) (u := []) (r := u ++ r) rfl rfl (Nat.le_of_ble_eq_true rfl) rfl rfl (by show 1 ≤ text.size; lia) acc_val_sp2 hd2 (fun _ h => nomatch h)
      (by
        intro c r' e
        cases u with
        | nil => exact absurd rfl h1
        | cons x u' => cases e; exact sp_of_val (hu c (.head _))) rfl hs (Nat.zero_le _) rfl
  refine Hits.step (m' := mkS cVAL text text.size false 0 29 1 1 true #[none, none] (-1) (-1) #[] none [fGB 19 1 0 (-1) (-1), fGB 7 0 0 (-1) (-1), fNS] 3 none s3) e3 ?_
  refine Hits.step (m' := mkS cVAL text text.size false 0 31 1 1 true #[some 1, none] 0 (-1) #[] none [fGB 19 1 0 (-1) (-1), fGB 7 0 0 (-1) (-1), fNS] 3 none (s3.add 17)) rfl ?_
  generalize s3.add 17 = sn
  obtain ⟨s4, e4⟩ := step_rep (m := mkS cVAL text text.size false 0 31 1 1 true #[some 1, none] 0 (-1) #[] none [fGB 19 1 0 (-1) (-1), fGB 7 0 0 (-1) (-1), fNS] 3 none sn) (P := valc) (u := u) (r := r) rfl rfl (Nat.le_of_ble_eq_true rfl) rfl rfl (by show 1 ≤ text.size; lia) acc_val hd3 hu hr rfl hs (Nat.zero_le _) rfl
  refine Hits.step (m' := mkS cVAL text text.size false 0 46 (1 + u.length) (1 + u.length) true #[some 1, none] 0 (-1) #[] none [fGB 31 (1 + u.length) u.length 0 (-1), fGB 19 1 0 (-1) (-1), fGB 7 0 0 (-1) (-1), fNS] 4 none s4) e4 ?_
  generalize 1 + u.length = e
  refine Hits.step (m' := mkS cVAL text text.size false 0 48 e e true #[some 1, some e] 1 1 #[] none [fGB 31 e u.length 0 (-1), fGB 19 1 0 (-1) (-1), fGB 7 0 0 (-1) (-1), fNS] 4 none (s4.add 17)) (by
    rw [step_none rfl rfl (Nat.le_of_ble_eq_true rfl)]
    show M.mark _ 1 = _
    unfold M.mark
    rfl) ?_
  generalize s4.add 17 = sn
  refine Hits.step (m' := mkS cVAL text text.size false 0 48 e e true #[some 1, some e] 1 1 #[] none [fGB 31 e u.length 0 (-1), fGB 19 1 0 (-1) (-1), fGB 7 0 0 (-1) (-1), fNS] 4 (some true) (sn.add 1)) rfl ?_
  generalize sn.add 1 = sn
  refine Hits.step rfl (Hits.step rfl (Hits.step rfl (Hits.step rfl (Hits.step rfl (Hits.done (Φ := fun m => Found m 0 e #[some 1, some e] 1 1) ⟨rfl, rfl, rfl, rfl, rfl, rfl⟩))))) |>.mono (by decide)
theorem quo_miss {text : Array Nat} {c : Nat} {r : List Nat} (ht : text.toList = 61 :: c :: r) (h1 : sp c = false) (h2 : c ≠ 34) (h3 : 3 ≤ text.size) (hs : text.size < 4294967295) :
    Hits (2 * text.size + 20) (forSearch cQUO text 1 0 text.size false) Failed := by
  have hsz : text.size = r.length + 2 := by rw [← Array.length_toList, ht]; rfl
  have hd1 : text.toList.drop 0 = [] ++ (61 :: c :: r) := by simpa using ht
  have hd2 : text.toList.drop 1 = [] ++ (c :: r) := by rw [ht]; rfl
  have hd3 : text.toList.drop 1 = c :: r := by rw [ht]; rfl
  rw [start_quo h3]
  have hls : max 0 (text.size - 2) ≤ text.size := by lia
  generalize max 0 (text.size - 2) = ls at hls
  generalize ({} : Seen).add 14 = sn
  refine (Hits.step (b := 2 * text.size + 11) (m' := mkS cQUO text ls false 0 7 0 0 true #[none, none] (-1) (-1) #[] none [fNS] 1 none ((sn.add 6).add 43)) rfl ?_).mono (by lia)
  generalize (sn.add 6).add 43 = sn
  obtain ⟨s2, e2⟩ := step_rep (m := mkS cQUO text ls false 0 7 0 0 true #[none, none] (-1) (-1) #[] none [fNS] 1 none sn) (P := sp) (u := []) (r := 61 :: c :: r) rfl rfl (Nat.le_of_ble_eq_true rfl) rfl rfl (Nat.zero_le _) acc_quo_sp hd1 (fun _ h => nomatch h)
      (by intro c r' e; cases e; decide +kernel) rfl hs (Nat.zero_le _) rfl
  refine Hits.step (b := 2 * text.size + 10) (m' := mkS cQUO text ls false 0 17 0 0 true #[none, none] (-1) (-1) #[] none [fGB 7 0 0 (-1) (-1), fNS] 2 none s2) e2 ?_
  refine Hits.step (b := 2 * text.size + 9) (m' := mkS cQUO text ls false 0 19 1 0 true #[none, none] (-1) (-1) #[] none [fGB 7 0 0 (-1) (-1), fNS] 2 none (s2.add 16)) (step_lit (c := 61) (r := c :: r) rfl rfl (Nat.le_of_ble_eq_true rfl) rfl rfl hd1 rfl) ?_
  generalize s2.add 16 = sn
  obtain ⟨s3, e3⟩ := step_rep (m := mkS cQUO text ls false 0 19 1 0 true #[none, none] (-1) (-1) #[] none [fGB 7 0 0 (-1) (-1), fNS] 2 none sn) (P := sp) (u := []) (r := c :: r) rfl rfl (Nat.le_of_ble_eq_true rfl) rfl rfl (by show 1 ≤ text.size; lia) acc_quo_sp2 hd2 (fun _ h => nomatch h)
      (by intro c' r' e; cases e; exact h1) rfl hs (Nat.zero_le _) rfl
  refine Hits.step (b := 2 * text.size + 8) (m' := mkS cQUO text ls false 0 29 1 1 true #[none, none] (-1) (-1) #[] none [fGB 19 1 0 (-1) (-1), fGB 7 0 0 (-1) (-1), fNS] 3 none s3) e3 ?_
  refine Hits.step (b := 2 * text.size + 7) (m' := mkS cQUO text ls false 0 29 1 1 true #[none, none] (-1) (-1) #[] none [fGB 19 1 0 (-1) (-1), fGB 7 0 0 (-1) (-1), fNS] 3 (some false) (s3.add 16)) (step_lit_no (c := c) (r := r) rfl rfl (Nat.le_of_ble_eq_true rfl) rfl rfl hd3 h2) ?_
  generalize s3.add 16 = sn
  refine Hits.step (b := 2 * text.size + 6) (m' := mkS cQUO text ls false 0 19 1 1 true #[none, none] (-1) (-1) #[] none [fGB 7 0 0 (-1) (-1), fNS] 2 (some false) sn) rfl ?_
  refine Hits.step (b := 2 * text.size + 5) (m' := mkS cQUO text ls false 0 7 0 1 true #[none, none] (-1) (-1) #[] none [fNS] 1 (some false) sn) rfl ?_
  exact hits_fail 0 true rfl rfl (Nat.le_of_ble_eq_true rfl) rfl (Nat.zero_le _) (by lia)
end Mine
end
section
set_option maxRecDepth 20000
namespace Mine
open PySem PySem.Sre PySem.Sre.M
noncomputable abbrev lp0 : Loop := { pc := 46, count := -1, began := none, outer := none }
noncomputable abbrev fCL (e : Nat) : PySem.Sre.Frame := { wait := .closeLoop, pc := 46, pos := e, outermost := true, loop := 0 }
noncomputable abbrev fMM (e : Nat) : PySem.Sre.Frame := { wait := .maxMore, pc := 67, pos := e, outermost := true, loop := 0, count := 0, kept := { lastmark := 0, lastindex := -1, whole := true, marks := #[some 2] }, began := none }
noncomputable abbrev fMT (e : Nat) : PySem.Sre.Frame := { wait := .maxTail, pc := 67, pos := e, outermost := true, loop := 0, count := 0, kept := { lastmark := 0, lastindex := -1 } }
theorem quo_hit {text : Array Nat} {u r : List Nat} (ht : text.toList = 61 :: 34 :: (u ++ 34 :: r)) (hu : ∀ c ∈ u, quoc c = true) (hs : text.size < 4294967295) :
    Hits 30 (forSearch cQUO text 1 0 text.size false) fun m => Found m 0 (2 + u.length + 1) #[some 2, some (2 + u.length)] 1 1 := by
  have hsz : text.size = u.length + r.length + 3 := by rw [← Array.length_toList, ht, List.length_cons, List.length_cons, List.length_append, List.length_cons]; lia
  have hd1 : text.toList.drop 0 = [] ++ (61 :: 34 :: (u ++ 34 :: r)) := by simpa using ht
  have hd2 : text.toList.drop 1 = [] ++ (34 :: (u ++ 34 :: r)) := by rw [ht]; rfl
  have hd3 : text.toList.drop 2 = u ++ (34 :: r) := by rw [ht]; rfl
  have hd4 : text.toList.drop (2 + u.length) = 34 :: r := drop_app hd3
  rw [start_quo (by lia)]
  generalize max 0 (text.size - 2) = ls
  generalize ({} : Seen).add 14 = sn
  refine Hits.step (m' := mkS cQUO text ls false 0 7 0 0 true #[none, none] (-1) (-1) #[] none [fNS] 1 none ((sn.add 6).add 43)) rfl ?_
  generalize (sn.add 6).add 43 = sn
  obtain ⟨s2, e2⟩ := step_rep (m := mkS cQUO text ls false 0 7 0 0 true #[none, none] (-1) (-1) #[] none [fNS] 1 none sn) (P := sp) (u := []) (r := 61 :: 34 :: (u ++ 34 :: r)) rfl rfl (Nat.le_of_ble_eq_true rfl) rfl rfl (Nat.zero_le _) acc_quo_sp hd1 (fun _ h => nomatch h)
      (by intro c r' e; cases e; decide +kernel) rfl hs (Nat.zero_le _) rfl
  refine Hits.step (m' := mkS cQUO text ls false 0 17 0 0 true #[none, none] (-1) (-1) #[] none [fGB 7 0 0 (-1) (-1), fNS] 2 none s2) e2 ?_
  refine Hits.step (m' := mkS cQUO text ls false 0 19 1 0 true #[none, none] (-1) (-1) #[] none [fGB 7 0 0 (-1) (-1), fNS] 2 none (s2.add 16)) (step_lit (c := 61) (r := 34 :: (u ++ 34 :: r)) rfl rfl (Nat.le_of_ble_eq_true rfl) rfl rfl hd1 rfl) ?_
  generalize s2.add 16 = sn
  obtain ⟨s3, e3⟩ := step_rep (m := mkS cQUO text ls false 0 19 1 0 true #[none, none] (-1) (-1) #[] none [fGB 7 0 0 (-1) (-1), fNS] 2 none sn) (P := sp) (u := []) (r := 34 :: (u ++ 34 :: r)) rfl rfl (Nat.le_of_ble_eq_true rfl) rfl rfl (by show 1 ≤ text.size; lia) acc_quo_sp2 hd2 (fun _ h => nomatch h)
      (by intro c r' e; cases e; decide +kernel) rfl hs (Nat.zero_le _) rfl
  refine Hits.step (m' := mkS cQUO text ls false 0 29 1 1 true #[none, none] (-1) (-1) #[] none [fGB 19 1 0 (-1) (-1), fGB 7 0 0 (-1) (-1), fNS] 3 none s3) e3 ?_
  refine Hits.step (m' := mkS cQUO text ls false 0 31 2 1 true #[none, none] (-1) (-1) #[] none [fGB 19 1 0 (-1) (-1), fGB 7 0 0 (-1) (-1), fNS] 3 none (s3.add 16)) (step_lit (c := 34) (r := u ++ 34 :: r) rfl rfl (Nat.le_of_ble_eq_true rfl) rfl rfl (by simpa using hd2) rfl) ?_
  generalize s3.add 16 = sn
  refine Hits.step (m' := mkS cQUO text ls false 0 33 2 1 true #[some 2, none] 0 (-1) #[] none [fGB 19 1 0 (-1) (-1), fGB 7 0 0 (-1) (-1), fNS] 3 none (sn.add 17)) rfl ?_
  generalize sn.add 17 = sn
  obtain ⟨s4, e4⟩ := step_rep (m := mkS cQUO text ls false 0 33 2 1 true #[some 2, none] 0 (-1) #[] none [fGB 19 1 0 (-1) (-1), fGB 7 0 0 (-1) (-1), fNS] 3 none sn) (P := quoc) (u := u) (r := 34 :: r) rfl rfl (Nat.le_of_ble_eq_true rfl) rfl rfl (by show 2 ≤ text.size; lia) acc_quo hd3 hu (by intro c r' e; cases e; decide +kernel) rfl hs (Nat.zero_le _) rfl
  refine Hits.step (m' := mkS cQUO text ls false 0 46 (2 + u.length) (2 + u.length) true #[some 2, none] 0 (-1) #[] none [fGB 33 (2 + u.length) u.length 0 (-1), fGB 19 1 0 (-1) (-1), fGB 7 0 0 (-1) (-1), fNS] 4 none s4) e4 ?_
  generalize 2 + u.length = e at hd4
  refine Hits.step (m' := mkS cQUO text ls false 0 66 e e true #[some 2, none] 0 (-1) #[lp0] (some 0) [fCL e, fGB 33 e u.length 0 (-1), fGB 19 1 0 (-1) (-1), fGB 7 0 0 (-1) (-1), fNS] 5 none (s4.add 23)) rfl ?_
  generalize s4.add 23 = sn
  refine Hits.step (m' := mkS cQUO text ls false 0 50 e e true #[some 2, none] 0 (-1) #[{ lp0 with count := 0, began := some e }] (some 0) [fMM e, fCL e, fGB 33 e u.length 0 (-1), fGB 19 1 0 (-1) (-1), fGB 7 0 0 (-1) (-1), fNS] 7 none (sn.add 18)) rfl ?_
  generalize sn.add 18 = sn
  refine Hits.step (m' := mkS cQUO text ls false 0 50 e e true #[some 2, none] 0 (-1) #[{ lp0 with count := 0, began := some e }] (some 0) [fMM e, fCL e, fGB 33 e u.length 0 (-1), fGB 19 1 0 (-1) (-1), fGB 7 0 0 (-1) (-1), fNS] 7 (some false) (sn.add 16)) (step_lit_no (c := 34) (r := r) rfl rfl (Nat.le_of_ble_eq_true rfl) rfl rfl hd4 (by show (34 : Nat) ≠ 92; decide)) ?_
  generalize sn.add 16 = sn
  refine Hits.step (m' := mkS cQUO text ls false 0 67 e e true #[some 2, none] 0 (-1) #[lp0] none [fMT e, fCL e, fGB 33 e u.length 0 (-1), fGB 19 1 0 (-1) (-1), fGB 7 0 0 (-1) (-1), fNS] 6 none sn) rfl ?_
  refine Hits.step (m' := mkS cQUO text ls false 0 69 e e true #[some 2, some e] 1 1 #[lp0] none [fMT e, fCL e, fGB 33 e u.length 0 (-1), fGB 19 1 0 (-1) (-1), fGB 7 0 0 (-1) (-1), fNS] 6 none (sn.add 17)) (by
    rw [step_none rfl rfl (Nat.le_of_ble_eq_true rfl)]
    show M.mark _ 1 = _
    unfold M.mark
    rfl) ?_
  generalize sn.add 17 = sn
  refine Hits.step (m' := mkS cQUO text ls false 0 71 (e + 1) e true #[some 2, some e] 1 1 #[lp0] none [fMT e, fCL e, fGB 33 e u.length 0 (-1), fGB 19 1 0 (-1) (-1), fGB 7 0 0 (-1) (-1), fNS] 6 none (sn.add 16)) (step_lit (c := 34) (r := r) rfl rfl (Nat.le_of_ble_eq_true rfl) rfl rfl hd4 rfl) ?_
  generalize sn.add 16 = sn
  refine Hits.step (m' := mkS cQUO text ls false 0 71 (e + 1) (e + 1) true #[some 2, some e] 1 1 #[lp0] none [fMT e, fCL e, fGB 33 e u.length 0 (-1), fGB 19 1 0 (-1) (-1), fGB 7 0 0 (-1) (-1), fNS] 6 (some true) (sn.add 1)) rfl ?_
  generalize sn.add 1 = sn
  refine Hits.step rfl (Hits.step rfl (Hits.step rfl (Hits.step rfl (Hits.step rfl (Hits.step rfl (Hits.step rfl (Hits.done (Φ := fun m => Found m 0 (e + 1) #[some 2, some e] 1 1) ⟨rfl, rfl, rfl, rfl, rfl, rfl⟩))))))) |>.mono (by decide)
theorem tw7_hit {text : Array Nat} {u r : List Nat} (ht : text.toList = u ++ r) (hu : ∀ c ∈ u, junk c = true) (hr : ∀ c r', r = c :: r' → junk c = false) (hs : text.size < 4294967295) :
    Hits 10 (forSearch cTW7 text 0 0 text.size false) fun m => Found m 0 u.length #[] (-1) (-1) := by
  have hd1 : text.toList.drop 0 = u ++ r := by simpa using ht
  rw [start_tw7]
  generalize ({} : Seen).add 14 = sn
  refine Hits.step (m' := mkS cTW7 text text.size false 0 7 0 0 true #[] (-1) (-1) #[] none [fNS] 1 none ((sn.add 6).add 43)) rfl ?_
  generalize (sn.add 6).add 43 = sn
  obtain ⟨s2, e2⟩ := step_rep (m := mkS cTW7 text text.size false 0 7 0 0 true #[] (-1) (-1) #[] none [fNS] 1 none sn) (P := junk) (u := u) (r := r) rfl rfl (Nat.le_of_ble_eq_true rfl) rfl rfl (Nat.zero_le _) acc_junk hd1 hu hr rfl hs (Nat.zero_le _) rfl
  refine Hits.step (m' := mkS cTW7 text text.size false 0 21 (0 + u.length) (0 + u.length) true #[] (-1) (-1) #[] none [fGB 7 (0 + u.length) u.length (-1) (-1), fNS] 2 none s2) e2 ?_
  rw [Nat.zero_add]
  refine Hits.step (m' := mkS cTW7 text text.size false 0 21 u.length u.length true #[] (-1) (-1) #[] none [fGB 7 u.length u.length (-1) (-1), fNS] 2 (some true) (s2.add 1)) rfl ?_
  generalize s2.add 1 = sn
  refine Hits.step rfl (Hits.step rfl (Hits.step rfl (Hits.done (Φ := fun m => Found m 0 u.length #[] (-1) (-1)) ⟨rfl, rfl, rfl, rfl, rfl, rfl⟩))) |>.mono (by decide)
theorem tw7_miss {text : Array Nat} {p : Nat} {ma : Bool} (h0 : 0 < p) (hp : p ≤ text.size) :
    Hits (2 * text.size + 20) (forSearch cTW7 text 0 p text.size ma) Failed := by
  have e : forSearch cTW7 text 0 p text.size ma = mkS cTW7 text text.size ma p 5 p p true #[] (-1) (-1) #[] none [{ wait := .nextStart, pc := 5, pos := p, outermost := true }] 1 none (({} : Seen).add 14) := by
    unfold forSearch
    show (if (decide (p > text.size) || decide (text.size - p < 0)) = true then _ else _) = _
    rw [if_neg (by rw [Bool.or_eq_true, decide_eq_true_eq, decide_eq_true_eq]; lia)]
    rfl
  rw [e]
  obtain ⟨q, rfl⟩ : ∃ q, p = q + 1 := ⟨p - 1, by lia⟩
  generalize ({} : Seen).add 14 = sn
  refine (Hits.step (b := 2 * text.size + 10) (m' := mkS cTW7 text text.size ma (q + 1) 5 (q + 1) (q + 1) true #[] (-1) (-1) #[] none [{ wait := .nextStart, pc := 5, pos := q + 1, outermost := true }] 1 (some false) ((sn.add 6).add 43)) rfl ?_).mono (by lia)
  exact hits_fail (q + 1) true rfl rfl (Nat.le_of_ble_eq_true rfl) rfl hp (by lia)
end Mine
end
section
open PySem PySem.W PyProof.Rows PySem.Builtin.Re
set_option maxRecDepth 100000
namespace Mine
section
variable {M : Model} {A : Around} {E : Value → Shared → Prop} {s : Shared}
theorem wp_drive : ∀ (turns n : Nat) (m : Sre.M) {Q : Sre.M → Shared → Prop}, n ≤ 4 * (turns + 1) → (Sre.M.runFor n m).outcome.isSome = true → Q (Sre.M.runFor n m) s → wpAny M A (reDrive (turns + 1) m) Q E s := by
  intro turns
  induction turns with
  | zero =>
    intro n m Q hn ho hq
    have e : Sre.M.runFor 4 m = Sre.M.runFor n m := by
      rw [show 4 = n + (4 - n) by lia, runFor_add, runFor_over ho]
    unfold reDrive
    show wpAny M A (if ((Sre.M.runFor 4 m).outcome.isSome = true) then _ else _) Q E s
    rw [if_pos (by rw [e]; exact ho)]
    exact wpAny_pure (show Q (Sre.M.runFor 4 m) s by rw [e]; exact hq)
  | succ turns ih =>
    intro n m Q hn ho hq
    unfold reDrive
    show wpAny M A (if ((Sre.M.runFor 4 m).outcome.isSome = true) then _ else _) Q E s
    by_cases h4 : (Sre.M.runFor 4 m).outcome.isSome = true
    · have e : Sre.M.runFor 4 m = Sre.M.runFor n m := by
        by_cases hle : n ≤ 4
        · rw [show 4 = n + (4 - n) by lia, runFor_add, runFor_over ho]
        · rw [show n = 4 + (n - 4) by lia, runFor_add, runFor_over h4]
      rw [if_pos h4]
      exact wpAny_pure (show Q (Sre.M.runFor 4 m) s by rw [e]; exact hq)
    · rw [if_neg h4]
      have hgt : 4 < n := by
        apply Nat.lt_of_not_le
        intro hle
        apply h4
        rw [show 4 = n + (4 - n) by lia, runFor_add, runFor_over ho]; exact ho
      have e : Sre.M.runFor n m = Sre.M.runFor (n - 4) (Sre.M.runFor 4 m) := by rw [← runFor_add]; congr 1; lia
      refine wpAny_bind (wpAny_rule (ih (n - 4) _ (by lia) (e ▸ ho) (e ▸ hq)))
theorem wp_run {b : Nat} {m : Sre.M} {Φ : Sre.M → Prop} (h : Hits b m Φ) (hb : b ≤ 2 ^ 40) {Q : Option Sre.M → Shared → Prop}
    (hq : ∀ m', Φ m' → (m'.outcome = some .matched ∧ Q (some m') s) ∨ (m'.outcome = some .failed ∧ Q none s)) : wpAny M A (reRunToEnd m) Q E s := by
  obtain ⟨m', ⟨n, hn, e⟩, hΦ⟩ := h
  have hq' := hq m' hΦ
  unfold reRunToEnd
  refine wpAny_bind ?_
  have ho : (Sre.M.runFor n m).outcome.isSome = true := by
    rw [e]
    rcases hq' with ⟨h, _⟩ | ⟨h, _⟩ <;> rw [h] <;> rfl
  refine wp_drive (2 ^ 64 - 1) n m (by lia) ho ?_
  rw [e]
  refine wpAny_bind ?_
  refine wpAny_forIn_list _ (fun _ _ s' => s' = s) _ (fun i rest b s' hs => ?_) (fun b s' hs => ?_) _ _ rfl
  · subst hs
    by_cases hi : m'.seen.has i = true
    · rw [if_pos hi]
      exact wpAny_bind (wpAny_rule (wpAny_pure rfl))
    · rw [if_neg hi]
      exact wpAny_pure rfl
  · subst hs
    rcases hq' with ⟨h, q⟩ | ⟨h, q⟩
    · rw [h]; exact wpAny_pure q
    · rw [h]; exact wpAny_pure q
end
end Mine
end
section
open PySem PySem.W PyProof.Rows PySem.Builtin.Re
set_option maxRecDepth 100000
namespace Mine
noncomputable abbrev tupO (vs : List Value) : Obj := { cls := .type "tuple", data := .seq vs.toArray }
noncomputable abbrev matO (x : Str) (t : Tok) (p : Addr) (lim : Nat) (li : Int) (T : Addr) : Obj := { cls := .type "re.Match", data := .fields #[.str x t, .ref p, .int 0 0, .int (lim : Int) 0, .int li 0, .ref T] }
noncomputable abbrev tgt (x : Str) (t : Tok) (p : Addr) (code : Array Nat) (g : Nat) : ReTarget := { pattern := .ref p, string := .str x t, code, text := x.cps, kind := 0, groups := g, pos := min (0 : Int).toNat x.cps.size, lim := min (2 ^ 63 - 1 : Int).toNat x.cps.size }
section
variable {prog : Program} {w : World} {A : Around} {E : Value → Shared → Prop} {s : Shared} {h₀ : Heap} {L : Addr} {m : Str → Option Value} {news : List (Addr × Obj)} {K : Frag}
theorem tgt_pos {x : Str} {t : Tok} {p : Addr} {code : Array Nat} {g : Nat} : (tgt x t p code g).pos = 0 := by
  show min (0 : Int).toNat x.cps.size = 0
  simp
theorem tgt_lim {x : Str} {t : Tok} {p : Addr} {code : Array Nat} {g : Nat} (hx : x.cps.size < 2 ^ 32) : (tgt x t p code g).lim = x.cps.size := by
  show min (2 ^ 63 - 1 : Int).toNat x.cps.size = _
  have : (2 ^ 63 - 1 : Int).toNat = 9223372036854775807 := by decide
  rw [this]; lia
theorem fr_tupmat (F : Fr h₀ L s.heap m) (N : News h₀ L s.heap news) (o o' : Obj) (hf : o.isFreed = false) (hf' : o'.isFreed = false) :
    Fr h₀ L ((s.heap.push o).push o') m ∧ News h₀ L ((s.heap.push o).push o') ((s.heap.objs.size + 1, o') :: (s.heap.objs.size, o) :: news) := by
  have F1 := F.push o
  have N1 := N.push F o hf
  have F2 := F1.push o'
  have N2 := N1.push F1 o' hf'
  rw [Heap.size_push] at N2
  exact ⟨F2, N2⟩
theorem newMatch1 {x : Str} {t : Tok} {p : Addr} {pos lim b e b1 e1 : Nat} {mm : Sre.M} {Q : Value → Shared → Prop} (F : Fr h₀ L s.heap m) (N : News h₀ L s.heap news)
    (f : Found mm b e #[some b1, some e1] 1 1) (hle : b1 ≤ e1)
    (hq : ∀ h' T Mt, Fr h₀ L h' m → News h₀ L h' ((Mt, { cls := .type "re.Match", data := .fields #[.str x t, .ref p, .int (pos : Int) 0, .int (lim : Int) 0, .int 1 0, .ref T] }) :: (T, tupO [.int (b : Int) 0, .int (e : Int) 0, .int (b1 : Int) 0, .int (e1 : Int) 0]) :: news) → (∀ q ∈ news, q.1 < T) → T < Mt → Q (.ref Mt) { s with heap := h' }) :
    wpAny (model prog w) A (reNewMatch (.ref p) (.str x t) 1 pos lim mm) Q E s := by
  unfold reNewMatch
  rw [show (List.range 1) = [0] from rfl]
  simp only [List.any_cons, List.any_nil, List.flatMap_cons, List.flatMap_nil, Nat.mul_zero, Nat.zero_add, f.marks, f.lm, f.start, f.handed, f.li]
  show wpAny _ _ (if ((true && decide (e1 < b1)) || false) = true then _ else _) Q E s
  rw [decide_eq_false (by lia)]
  show wpAny _ _ (do let tt ← newTuple [rawInt (b : Int), rawInt (e : Int), rawInt (b1 : Int), rawInt (e1 : Int)]; newFields "re.Match" [.str x t, .ref p, rawInt (pos : Int), rawInt (lim : Int), rawInt 1, tt]) Q E s
  have P := fr_tupmat F N (tupO [.int (b : Int) 0, .int (e : Int) 0, .int (b1 : Int) 0, .int (e1 : Int) 0]) { cls := .type "re.Match", data := .fields #[.str x t, .ref p, .int (pos : Int) 0, .int (lim : Int) 0, .int 1 0, .ref s.heap.objs.size] } rfl rfl
  refine wpAny_bind (wpAny_newObj_type ?_ (by show (4 : Nat) ≤ sizeLine; decide))
  refine wpAny_newObj_type ?_ (by show (6 : Nat) ≤ sizeLine + 2; decide)
  have := hq _ s.heap.objs.size (s.heap.objs.size + 1) P.1 P.2 (fun q hq => Heap.lt_size (N q hq).1) (Nat.lt_succ_self _)
  rw [← Heap.size_push (o := tupO [.int (b : Int) 0, .int (e : Int) 0, .int (b1 : Int) 0, .int (e1 : Int) 0])] at this
  exact this
end
end Mine
end
section
open PySem PySem.W PyProof.Rows PySem.Builtin.Re
set_option maxRecDepth 100000
set_option Elab.async false
namespace Mine
noncomputable abbrev pw : Program := PySem.Challenge.pw_kq0058_01
noncomputable abbrev KK (w : World) : Frag := hd.heap_1 w.params
section
variable {w : World} {A : Around} {E : Value → Shared → Prop} {s : Shared} {h₀ : Heap} {L : Addr} {m : Str → Option Value} {news : List (Addr × Obj)}
theorem pk_tok (x : Str) (t : Tok) : peek (KK w) ⟨pw, w.params⟩ (reTarget "re.Pattern.search" "search" ⟨[.ref 55, .str x t], []⟩) = some (tgt x t 55 cTOK 1) := by kernel_rfl
theorem pk_quo (x : Str) (t : Tok) : peek (KK w) ⟨pw, w.params⟩ (reTarget "re.Pattern.search" "search" ⟨[.ref 60, .str x t], []⟩) = some (tgt x t 60 cQUO 1) := by kernel_rfl
theorem pk_val (x : Str) (t : Tok) : peek (KK w) ⟨pw, w.params⟩ (reTarget "re.Pattern.search" "search" ⟨[.ref 65, .str x t], []⟩) = some (tgt x t 65 cVAL 1) := by kernel_rfl
theorem pk_jt (x : Str) (t : Tok) : peek (KK w) ⟨pw, w.params⟩ (reTarget "re.Pattern.fullmatch" "fullmatch" ⟨[.ref 82, .str x t], []⟩) = some (tgt x t 82 cJT 0) := by kernel_rfl
noncomputable def isPat (o : Obj) : Bool := match o with | ⟨.type "re.Pattern", none, .fields _, _⟩ => true | _ => false
theorem pat_is {K : Frag} {p : Addr} (X : K.In h₀) (keep : ∀ b o, h₀.get? b = some o → s.heap.get? b = some o) (h : (K.lookup p).any isPat = true) : s.TypeIs (.ref p) "re.Pattern" ∧ ∀ a, Value.ref p = .ref a → ∃ o, s.heap.get? a = some o ∧ o.dict = none := by
  cases e : K.lookup p with
  | none => rw [e] at h; cases h
  | some o =>
    rw [e] at h
    have ho := keep _ _ (X _ _ e)
    have h' : isPat o = true := h
    unfold isPat at h'
    split at h'
    · refine ⟨⟨_, ho, rfl⟩, fun a ha => ?_⟩
      cases ha
      exact ⟨_, ho, rfl⟩
    · cases h'
theorem search_hit {p : Addr} {code : Array Nat} {x : Str} {t : Tok} {b e b1 e1 n : Nat} {Q : Value → Shared → Prop} (F : Fr h₀ L s.heap m) (N : News h₀ L s.heap news) (X : (KK w).In h₀)
    (hp : ((KK w).lookup p).any isPat = true) (pk : peek (KK w) ⟨pw, w.params⟩ (reTarget "re.Pattern.search" "search" ⟨[.ref p, .str x t], []⟩) = some (tgt x t p code 1)) (hx : x.cps.size < 2 ^ 32)
    (h : Hits n (Sre.forSearch code x.cps 1 0 x.cps.size false) fun mm => Found mm b e #[some b1, some e1] 1 1) (hn : n ≤ 2 ^ 40) (hle : b1 ≤ e1)
    (hq : ∀ h' T Mt, Fr h₀ L h' m → News h₀ L h' ((Mt, matO x t p x.cps.size 1 T) :: (T, tupO [.int (b : Int) 0, .int (e : Int) 0, .int (b1 : Int) 0, .int (e1 : Int) 0]) :: news) → (∀ q ∈ news, q.1 < T) → T < Mt → Q (.ref Mt) { s with heap := h' }) :
    wpAny (model pw w) A (call (.builtin "re.Pattern.search") [.ref p, .str x t]) Q E s := by
  refine wpAny_call_entry slot_re_Pattern_search (pat_is X F.keep hp).1 entry_re_Pattern_search ?_ (args_re_Pattern_search_2 _ _)
  unfold Builtin.«re.Pattern.search»
  refine wpAny_bind (Looks.of_peek (M := model pw w) X pk A.in1 _ _ s F.keep ?_)
  rw [tgt_pos, tgt_lim hx]
  unfold reAnswer
  refine wpAny_bind (wp_run h hn fun m' f => .inl ⟨f.out, ?_⟩)
  refine wpAny_bind (newMatch1 F N f hle fun h' T Mt F' N' o1 o2 => wpAny_pure ⟨_, rfl, ?_⟩)
  have hl : (tgt x t p code 1).lim = x.cps.size := tgt_lim hx
  have ho : (tgt x t p code 1).pos = 0 := tgt_pos
  rw [hl, ho] at N'
  exact hq h' T Mt F' N' o1 o2
theorem search_miss {p : Addr} {code : Array Nat} {g : Nat} {x : Str} {t : Tok} {n : Nat} {Q : Value → Shared → Prop} (F : Fr h₀ L s.heap m) (X : (KK w).In h₀)
    (hp : ((KK w).lookup p).any isPat = true) (pk : peek (KK w) ⟨pw, w.params⟩ (reTarget "re.Pattern.search" "search" ⟨[.ref p, .str x t], []⟩) = some (tgt x t p code g)) (hx : x.cps.size < 2 ^ 32)
    (h : Hits n (Sre.forSearch code x.cps g 0 x.cps.size false) Failed) (hn : n ≤ 2 ^ 40) (hq : Q .none s) :
    wpAny (model pw w) A (call (.builtin "re.Pattern.search") [.ref p, .str x t]) Q E s := by
  refine wpAny_call_entry slot_re_Pattern_search (pat_is X F.keep hp).1 entry_re_Pattern_search ?_ (args_re_Pattern_search_2 _ _)
  unfold Builtin.«re.Pattern.search»
  refine wpAny_bind (Looks.of_peek (M := model pw w) X pk A.in1 _ _ s F.keep ?_)
  rw [tgt_pos, tgt_lim hx]
  unfold reAnswer
  exact wpAny_bind (wp_run h hn fun m' f => .inr ⟨f, wpAny_pure ⟨_, rfl, hq⟩⟩)
end
end Mine
end
section
open PySem PySem.W PyProof.Rows PySem.Builtin.Re
set_option maxRecDepth 100000
set_option Elab.async false
namespace Mine
noncomputable def pkr {α : Type} (g : Setting) : Sem α → Nat → List Obj → Option (List Addr × Nat × α)
  | .pure a, n, _ => some ([], n, a)
  | .rule _ k, n, os => pkr g (k ()) n os
  | .at _ k, n, os => pkr g (k ()) n os
  | .point _ k, n, os => pkr g (k ()) n os
  | .ask k, n, os => pkr g (k g) n os
  | .fresh k, n, os => pkr g (k n) (n + 1) os
  | .load a _ k, n, os => match os with
    | o :: os => (pkr g (k o) n os).map fun r => (a :: r.1, r.2)
    | [] => none
  | _, _, _ => none
inductive Has (h : Heap) : List Addr → List Obj → Prop
  | nil : ∀ {os}, Has h [] os
  | cons : ∀ {a as o os}, h.get? a = some o → Has h as os → Has h (a :: as) (o :: os)
theorem pkr_wp {α : Type} {prog : Program} {w : World} {A : Around} {E : Value → Shared → Prop} {Q : α → Shared → Prop} : ∀ (t : Sem α) (s : Shared) (os : List Obj) (as : List Addr) (n' : Nat) (r : α),
    pkr ⟨prog, w.params⟩ t s.toks os = some (as, n', r) → Has s.heap as os → Q r { s with toks := n' } → wpAny (model prog w) A t Q E s := by
  intro t
  induction t with
  | pure a => intro s os as n' r e _ q; cases e; exact wpAny_pure q
  | rule tag k ih => intro s os as n' r e h q; exact fun Γ p hΓ => ih () s os as n' r e h q Γ p hΓ
  | «at» pos k ih => intro s os as n' r e h q; exact fun Γ p hΓ => ih () s os as n' r e h q Γ pos hΓ
  | point l k ih => intro s os as n' r e h q; exact fun Γ p hΓ => ih () s os as n' r e h q Γ p hΓ
  | ask k ih => intro s os as n' r e h q; exact fun Γ p hΓ => ih _ s os as n' r e h q Γ p hΓ
  | fresh k ih => intro s os as n' r e h q; exact fun Γ p hΓ => ih _ { s with toks := s.toks + 1 } os as n' r e h q Γ p hΓ
  | load a pt k ih =>
    intro s os as n' r e h q
    cases os with
    | nil => cases e
    | cons o os =>
      simp only [pkr, Option.map_eq_some_iff] at e
      obtain ⟨⟨as', n'', r'⟩, e', e2⟩ := e
      cases e2
      cases h with
      | cons h1 h2 => exact fun Γ p hΓ => ⟨o, h1, ih o s os as' _ _ e' h2 q Γ p hΓ⟩
  | _ => intro s os as n' r e _ _; cases e
section
variable {w : World} {A : Around} {E : Value → Shared → Prop} {s : Shared} {h₀ : Heap} {L : Addr} {m : Str → Option Value} {news : List (Addr × Obj)}
theorem mat_is {Mt : Addr} {ob : Obj} (N : News h₀ L s.heap news) (h : (Mt, ob) ∈ news) (hc : ob.cls = .type "re.Match") (hd : ob.dict = none) : s.TypeIs (.ref Mt) "re.Match" ∧ ∀ a, Value.ref Mt = .ref a → ∃ o, s.heap.get? a = some o ∧ o.dict = none :=
  ⟨⟨_, N.get h, hc⟩, fun a ha => by cases ha; exact ⟨_, N.get h, hd⟩⟩
theorem group1_call {Mt T : Addr} {x : Str} {t : Tok} {p : Addr} {lim : Nat} {b e b1 e1 : Nat} {u : Tok} {Q : Value → Shared → Prop} (F : Fr h₀ L s.heap m) (N : News h₀ L s.heap news)
    (hM : (Mt, matO x t p lim 1 T) ∈ news) (hT : (T, tupO [.int (b : Int) 0, .int (e : Int) 0, .int (b1 : Int) 0, .int (e1 : Int) 0]) ∈ news) (hx : x.cps.size ≤ sizeLine)
    (hq : ∀ tk' t1, Q (.str ⟨x.cps.extract b1 e1⟩ t1) { s with toks := tk' }) :
    wpAny (model pw w) A (call (.builtin "re.Match.group") [.ref Mt, .int 1 u]) Q E s := by
  refine wpAny_call_entry slot_re_Match_group (mat_is N hM rfl rfl).1 entry_re_Match_group ?_ (args_re_Match_group_2 _ _)
  unfold Builtin.«re.Match.group»
  show wpAny _ _ (do
    noKeywords "Match.group" ⟨[.ref Mt, .int 1 u], []⟩
    let x ← reFound (.ref Mt)
    ret (← reGroupText x (← reGroupNumber x (.int 1 u)) .none)) _ E s
  refine wpAny_bind (wpAny_pure ?_)
  refine wpAny_bind (pkr_wp (prog := pw) (w := w) (Q := _) _ s [matO x t p lim 1 T, tupO [.int (b : Int) 0, .int (e : Int) 0, .int (b1 : Int) 0, .int (e1 : Int) 0]] [Mt, T] s.toks ⟨#[.str x t, .ref p, .int 0 0, .int (lim : Int) 0, .int 1 0, .ref T], #[(b : Int), (e : Int), (b1 : Int), (e1 : Int)]⟩ (by kernel_rfl) (.cons (N.get hM) (.cons (N.get hT) .nil)) ?_)
  refine wpAny_bind (pkr_wp (prog := pw) (w := w) (Q := _) _ s [] [] s.toks 1 (by kernel_rfl) .nil ?_)
  refine wpAny_bind ?_
  have hg : reGroupText ⟨#[.str x t, .ref p, .int 0 0, .int (lim : Int) 0, .int 1 0, .ref T], #[(b : Int), (e : Int), (b1 : Int), (e1 : Int)]⟩ 1 .none = mkStr ⟨x.cps.extract b1 e1⟩ := by
    unfold reGroupText
    have hc : ((decide ((b1 : Int) < 0) || decide ((e1 : Int) < 0)) = true) = False := by
      simp only [Bool.or_eq_true, decide_eq_true_eq, eq_iff_iff, iff_false]; lia
    show (if (decide ((b1 : Int) < 0) || decide ((e1 : Int) < 0)) = true then pure Value.none else (do
      let (text, kind) ← reTextOf (.str x t)
      reSlice text kind (b1 : Int).toNat (e1 : Int).toNat)) = _
    rw [if_neg (by rw [hc]; exact id)]
    rfl
  rw [hg]
  refine wpAny_mkStr (wpAny_pure ⟨_, rfl, hq _ _⟩) (by show (x.cps.extract b1 e1).size ≤ sizeLine; simp; lia)
end
end Mine
end
section
open PySem PySem.W PyProof.Rows
set_option maxRecDepth 100000
set_option Elab.async false
namespace Mine
inductive Ce where
  | old (o : Obj)
  | new (j : Nat)
structure GS where
  toks : Nat
  js : List Obj := []
  os : List Ce
  as : List (Addr × Ce) := []
noncomputable def goT {α : Type} (g : Setting) (n0 : Nat) (H : Code → GS → Option (GS × Result)) : Sem α → GS → Option (GS × α)
  | .pure a, st => some (st, a)
  | .rule _ k, st => goT g n0 H (k ()) st
  | .at _ k, st => goT g n0 H (k ()) st
  | .point _ k, st => goT g n0 H (k ()) st
  | .ask k, st => goT g n0 H (k g) st
  | .fresh k, st => goT g n0 H (k st.toks) { st with toks := st.toks + 1 }
  | .load a _ k, st => match st.os with
    | [] => none
    | .old o :: os => goT g n0 H (k o) { st with os, as := (a, .old o) :: st.as }
    | .new j :: os => match st.js.reverse[j]? with
      | some o => goT g n0 H (k o) { st with os, as := (a, .new j) :: st.as }
      | none => none
  | .alloc o k, st => match o.isFreed with
    | true => none
    | false => goT g n0 H (k (n0 + st.js.length)) { st with js := o :: st.js }
  | .call c hd _ _ k, st => match hd with
    | none => match H c st with
      | some (st', r) => goT g n0 H (k r) st'
      | none => none
    | some _ => none
  | _, _ => none
noncomputable def goC (g : Setting) (n0 : Nat) : Nat → Code → GS → Option (GS × Result)
  | 0, _, _ => none
  | n + 1, c, st => match goT g n0 (goC g n0 n) (denote treeTable c) st with
    | some (st', .done f) => some (st', .ok f)
    | some (st', .again c') => match c'.quiet with
      | true => goC g n0 n c' st'
      | false => none
    | none => none
noncomputable def pushed (h : Heap) : List Obj → Heap
  | [] => h
  | o :: l => (pushed h l).push o
noncomputable def CeOk (h : Heap) (n0 : Nat) : Addr × Ce → Prop
  | (a, .old o) => h.get? a = some o
  | (a, .new j) => a = n0 + j
theorem size_pushed (h : Heap) : ∀ l, (pushed h l).objs.size = h.objs.size + l.length
  | [] => rfl
  | o :: l => by rw [pushed, Heap.size_push, size_pushed h l]; rfl
theorem get_pushed (h : Heap) {a : Addr} {o : Obj} (e : h.get? a = some o) : ∀ l, (pushed h l).get? a = some o
  | [] => e
  | x :: l => Heap.get?_push_of_some _ (get_pushed h e l)
theorem get_new (h : Heap) : ∀ (l : List Obj) (j : Nat) (o : Obj), (∀ x ∈ l, x.isFreed = false) → l.reverse[j]? = some o → (pushed h l).get? (h.objs.size + j) = some o := by
  intro l
  induction l with
  | nil => intro j o _ e; simp at e
  | cons x l ih =>
    intro j o hf e
    rw [List.reverse_cons] at e
    by_cases hj : j < l.length
    · rw [List.getElem?_append_left (by simpa using hj)] at e
      exact Heap.get?_push_of_some _ (ih j o (fun y hy => hf y (.tail _ hy)) e)
    · have hjl : j = l.length := by
        have := (List.getElem?_eq_some_iff.mp e).1
        simp at this; lia
      subst hjl
      rw [List.getElem?_append_right (by simp)] at e
      simp at e
      subst e
      rw [pushed, ← size_pushed h l]
      exact Heap.get?_push_size _ (hf x (.head _))
structure Mid (st st' : GS) : Prop where
  as : ∃ l, st'.as = l ++ st.as
  js : ∃ l, st'.js = l ++ st.js ∧ ∀ x ∈ l, x.isFreed = false
theorem Mid.refl (st : GS) : Mid st st := ⟨⟨[], rfl⟩, ⟨[], rfl, fun _ h => nomatch h⟩⟩
theorem Mid.trans {a b c : GS} (x : Mid a b) (y : Mid b c) : Mid a c := by
  obtain ⟨⟨l, e⟩, ⟨j, f, hj⟩⟩ := x
  obtain ⟨⟨l', e'⟩, ⟨j', f', hj'⟩⟩ := y
  refine ⟨⟨l' ++ l, by rw [e', e, List.append_assoc]⟩, ⟨j' ++ j, by rw [f', f, List.append_assoc], fun z hz => ?_⟩⟩
  rcases List.mem_append.mp hz with h | h
  · exact hj' z h
  · exact hj z h
section
variable {prog : Program} {w : World} {h : Heap} {gens : Array GenState} {dr : Drawn} {os : OsState}
noncomputable abbrev sOf (h : Heap) (gens : Array GenState) (dr : Drawn) (os : OsState) (st : GS) : Shared := ⟨pushed h st.js, gens, dr, st.toks, os⟩
noncomputable def GoodH (prog : Program) (w : World) (h : Heap) (gens : Array GenState) (dr : Drawn) (os : OsState) (H : Code → GS → Option (GS × Result)) : Prop :=
  ∀ c st st' r, (∀ x ∈ st.js, x.isFreed = false) → H c st = some (st', r) → Mid st st' ∧ ((∀ p ∈ st'.as, CeOk h h.objs.size p) → ∀ A R, R r (sOf h gens dr os st') → codeAny (model prog w) A c R (sOf h gens dr os st))
theorem goT_ok {α : Type} {H : Code → GS → Option (GS × Result)} (GH : GoodH prog w h gens dr os H) : ∀ (t : Sem α) (st st' : GS) (r : α), (∀ x ∈ st.js, x.isFreed = false) → goT ⟨prog, w.params⟩ h.objs.size H t st = some (st', r) →
    Mid st st' ∧ ((∀ p ∈ st'.as, CeOk h h.objs.size p) → ∀ A Q E, Q r (sOf h gens dr os st') → wpAny (model prog w) A t Q E (sOf h gens dr os st)) := by
  intro t
  induction t with
  | pure a => intro st st' r _ e; cases e; exact ⟨Mid.refl _, fun _ A Q E q => wpAny_pure q⟩
  | rule tag k ih => intro st st' r hf e; have z := ih () st st' r hf e; exact ⟨z.1, fun p A Q E q Γ p' hΓ => z.2 p A Q E q Γ p' hΓ⟩
  | «at» pos k ih => intro st st' r hf e; have z := ih () st st' r hf e; exact ⟨z.1, fun p A Q E q Γ p' hΓ => z.2 p A Q E q Γ pos hΓ⟩
  | point l k ih => intro st st' r hf e; have z := ih () st st' r hf e; exact ⟨z.1, fun p A Q E q Γ p' hΓ => z.2 p A Q E q Γ p' hΓ⟩
  | ask k ih => intro st st' r hf e; have z := ih _ st st' r hf e; exact ⟨z.1, fun p A Q E q Γ p' hΓ => z.2 p A Q E q Γ p' hΓ⟩
  | fresh k ih => intro st st' r hf e; have z := ih _ { st with toks := st.toks + 1 } st' r hf e; exact ⟨⟨z.1.as, z.1.js⟩, fun p A Q E q Γ p' hΓ => z.2 p A Q E q Γ p' hΓ⟩
  | load a pt k ih =>
    intro st st' r hf e
    unfold goT at e
    split at e
    · cases e
    · rename_i o os' _
      have z := ih o { st with os := os', as := (a, .old o) :: st.as } st' r hf e
      obtain ⟨⟨l, el⟩, hj⟩ := z.1
      refine ⟨⟨⟨l ++ [(a, .old o)], by rw [el, List.append_assoc]; rfl⟩, hj⟩, fun p A Q E q Γ p' hΓ => ⟨o, ?_, z.2 p A Q E q Γ p' hΓ⟩⟩
      have := p (a, .old o) (by rw [el]; exact List.mem_append_right _ (.head _))
      exact get_pushed h this _
    · rename_i j os' _
      split at e
      · rename_i o ho
        have z := ih o { st with os := os', as := (a, .new j) :: st.as } st' r hf e
        obtain ⟨⟨l, el⟩, hj⟩ := z.1
        refine ⟨⟨⟨l ++ [(a, .new j)], by rw [el, List.append_assoc]; rfl⟩, hj⟩, fun p A Q E q Γ p' hΓ => ⟨o, ?_, z.2 p A Q E q Γ p' hΓ⟩⟩
        have : a = h.objs.size + j := p (a, .new j) (by rw [el]; exact List.mem_append_right _ (.head _))
        rw [this]
        exact get_new h _ _ _ hf ho
      · cases e
  | alloc o k ih =>
    intro st st' r hf e
    unfold goT at e
    split at e
    · cases e
    · rename_i hfo
      have hf' : ∀ x ∈ o :: st.js, x.isFreed = false := fun x hx => by
        rcases List.mem_cons.mp hx with rfl | hx
        · exact hfo
        · exact hf x hx
      have z := ih _ { st with js := o :: st.js } st' r hf' e
      obtain ⟨ha, ⟨l, el, hl⟩⟩ := z.1
      refine ⟨⟨ha, ⟨l ++ [o], by rw [el, List.append_assoc]; rfl, fun x hx => ?_⟩⟩, fun p A Q E q => ?_⟩
      · rcases List.mem_append.mp hx with hx | hx
        · exact hl x hx
        · exact hf' x (by rw [List.mem_singleton.mp hx]; exact .head _)
      · have y := z.2 p A Q E q
        refine wpAny_bind (m := PySem.alloc o) (f := k) (wpAny_alloc ?_)
        show wpAny _ _ (k (pushed h st.js).objs.size) _ _ _
        rw [size_pushed]
        exact y
  | call c hd gd l k ih =>
    intro st st' r hf e
    unfold goT at e
    split at e
    · split at e
      · rename_i st1 r1 e1
        have z1 := GH c st st1 r1 hf e1
        have hf1 : ∀ x ∈ st1.js, x.isFreed = false := by
          obtain ⟨_, ⟨l, el, hl⟩⟩ := z1.1
          intro x hx
          rw [el] at hx
          rcases List.mem_append.mp hx with hx | hx
          · exact hl x hx
          · exact hf x hx
        have z := ih r1 st1 st' r hf1 e
        refine ⟨z1.1.trans z.1, fun p A Q E q => ?_⟩
        refine X.x_call (z1.2 (fun y hy => p y ?_) _ _ (z.2 p A Q E q)) (by intro x; cases x)
        obtain ⟨⟨l, el⟩, _⟩ := z.1
        rw [el]; exact List.mem_append_right _ hy
      · cases e
    · cases e
  | _ => intro st st' r _ e; cases e
theorem goC_ok : ∀ n, GoodH prog w h gens dr os (goC ⟨prog, w.params⟩ h.objs.size n) := by
  intro n
  induction n with
  | zero => intro c st st' r _ e; cases e
  | succ n ih =>
    intro c st st' r hf e
    unfold goC at e
    split at e
    · rename_i st1 f e1
      have z := goT_ok ih _ st st1 _ hf e1
      cases e
      refine ⟨z.1, fun p A R q => X.x_code ?_⟩
      rw [table_eq_tree]
      exact z.2 p _ _ _ q
    · rename_i st1 c' e1
      split at e
      · rename_i hq
        have z := goT_ok ih _ st st1 _ hf e1
        have hf1 : ∀ x ∈ st1.js, x.isFreed = false := by
          obtain ⟨_, ⟨l, el, hl⟩⟩ := z.1
          intro x hx
          rw [el] at hx
          rcases List.mem_append.mp hx with hx | hx
          · exact hl x hx
          · exact hf x hx
        have z2 := ih c' st1 st' r hf1 e
        refine ⟨z.1.trans z2.1, fun p A R q => X.x_code ?_⟩
        rw [table_eq_tree]
        refine z.2 (fun y hy => p y ?_) _ _ _ ⟨hq, z2.2 p A R q⟩
        obtain ⟨⟨l, el⟩, _⟩ := z2.1
        rw [el]; exact List.mem_append_right _ hy
      · cases e
    · cases e
end
theorem go_wp {α : Type} {prog : Program} {w : World} {A : Around} {E : Value → Shared → Prop} {Q : α → Shared → Prop} {t : Sem α} {s : Shared} (n : Nat) (os : List Ce) {st' : GS} {r : α}
    (e : goT ⟨prog, w.params⟩ s.heap.objs.size (goC ⟨prog, w.params⟩ s.heap.objs.size n) t { toks := s.toks, os := os } = some (st', r)) (hp : ∀ p ∈ st'.as, CeOk s.heap s.heap.objs.size p)
    (q : Q r { s with heap := pushed s.heap st'.js, toks := st'.toks }) : wpAny (model prog w) A t Q E s :=
  (goT_ok (h := s.heap) (gens := s.gens) (dr := s.drawn) (os := s.os) (goC_ok n) t { toks := s.toks, os := os } st' r (fun _ h => nomatch h) e).2 hp A Q E q
end Mine
end
section
open PySem PySem.W PyProof.Rows
set_option maxRecDepth 100000
set_option Elab.async false
namespace Mine
theorem go2 {α : Type} {prog : Program} {w : World} {A : Around} {E : Value → Shared → Prop} {Q : α → Shared → Prop} {t : Sem α} {s : Shared} (n : Nat) (cert : List (Addr × Ce)) {tk : Nat} {js : List Obj} {r : α}
    (e : goT ⟨prog, w.params⟩ s.heap.objs.size (goC ⟨prog, w.params⟩ s.heap.objs.size n) t { toks := s.toks, os := cert.map (·.2) } = some (⟨tk, js, [], cert.reverse⟩, r)) (hp : ∀ p ∈ cert, CeOk s.heap s.heap.objs.size p)
    (q : Q r { s with heap := pushed s.heap js, toks := tk }) : wpAny (model prog w) A t Q E s :=
  go_wp n (cert.map (·.2)) e (fun p h => hp p (List.mem_reverse.mp h)) q
section
variable {w : World} {A : Around} {E : Value → Shared → Prop} {s : Shared} {h₀ : Heap} {L : Addr} {m : Str → Option Value} {news : List (Addr × Obj)}
theorem reps_ok {a : Addr} {o : Obj} {h : Heap} {n0 k : Nat} (e : h.get? a = some o) : ∀ p ∈ List.replicate k (a, Ce.old o), CeOk h n0 p := fun p hp => by
  rw [List.eq_of_mem_replicate hp]; exact e
theorem mat_string {Mt T : Addr} {x : Str} {t : Tok} {p : Addr} {lim : Nat} {Q : Value → Shared → Prop} (N : News h₀ L s.heap news) (hM : (Mt, matO x t p lim 1 T) ∈ news) (hq : ∀ tk', Q (.str x t) { s with toks := tk' }) :
    wpAny (model pw w) A (getAttr (.ref Mt) "string" true) Q E s :=
  go2 20 (List.replicate 5 (Mt, .old (matO x t p lim 1 T))) (tk := s.toks + 1) (js := []) (r := .str x t) (by kernel_rfl) (reps_ok (N.get hM)) (hq _)
theorem mat_true {Mt T : Addr} {x : Str} {t : Tok} {p : Addr} {lim : Nat} {Q : Bool → Shared → Prop} (N : News h₀ L s.heap news) (hM : (Mt, matO x t p lim 1 T) ∈ news) (hq : Q true s) :
    wpAny (model pw w) A (truthy (.ref Mt)) Q E s :=
  go2 20 (List.replicate 2 (Mt, .old (matO x t p lim 1 T))) (tk := s.toks) (js := []) (r := true) (by kernel_rfl) (reps_ok (N.get hM)) hq
theorem list_no_str {l : Addr} {its : Array Value} {ep : Nat} {Q : Value → Shared → Prop} (N : News h₀ L s.heap news) (hM : (l, ({ cls := .type "list", data := .seq its ep } : Obj)) ∈ news) (hq : ∀ tk', Q (.bool false) { s with toks := tk' }) :
    wpAny (model pw w) A (call (.builtin "isinstance") [.ref l, .type "str"]) Q E s :=
  go2 20 (List.replicate 7 (l, .old { cls := .type "list", data := .seq its ep })) (tk := s.toks + 1) (js := []) (r := .bool false) (by kernel_rfl) (reps_ok (N.get hM)) (hq _)
theorem type_bytes {x : Array UInt8} {t : Tok} {Q : Value → Shared → Prop} (hq : Q (.type "bytes") s) : wpAny (model pw w) A (call (.type "type") [.bytes x t]) Q E s :=
  go2 20 [] (tk := s.toks) (js := []) (r := .type "bytes") (by kernel_rfl) (fun _ h => nomatch h) hq
end
end Mine
end
section
open PySem PySem.W PyProof.Rows
set_option maxRecDepth 100000
set_option Elab.async false
namespace Mine
noncomputable abbrev NoE : Value → Shared → Prop := fun _ _ => False
noncomputable def Rest (s s' : Shared) : Prop := ∃ h tk, s' = { s with heap := h, toks := tk }
section
variable {prog : Program} {w : World} {A : Around} {E : Value → Shared → Prop} {s : Shared} {g : Heap} {L : Addr} {m : Str → Option Value} {news : List (Addr × Obj)}
theorem fr_same {h h' : Heap} (F : Fr g L h m) (hL : h'.get? L = h.get? L) (hk : ∀ b o, g.get? b = some o → h'.get? b = some o) : Fr g L h' m := by
  obtain ⟨oL, a1, a2, hg, a3⟩ := F.ns
  exact ⟨⟨oL, a1, a2, hL.trans hg, a3⟩, hk, F.above⟩
theorem fr_sameBut {I : Addr} {h h' : Heap} (F : Fr g L h m) (hI : g.get? I = none) (hIL : I ≠ L) (hs : Heap.SameBut I h h') : Fr g L h' m :=
  fr_same F (hs.2 L (Ne.symm hIL)) fun b o e => (hs.2 b (fun h => by subst h; rw [hI] at e; cases e)).trans (F.keep b o e)
end
end Mine
end
section
open PySem PyProof.Rows PySem.Builtin PySem.Builtin.Str
namespace Mine
noncomputable abbrev S (l : List Nat) : Str := ⟨l.toArray⟩
theorem S_len (l : List Nat) : (S l).length = l.length := by show l.toArray.size = _; simp
theorem S_app (a b : List Nat) : S a ++ S b = S (a ++ b) := by
  apply Str.ext'
  rw [Str.cps_append]
  simp
theorem range_drop (l : List Nat) : ∀ (d e : Nat), e + d = l.length → ((List.range d).map (fun k => e + k * 1)).filterMap (l[·]?) = l.drop e := by
  intro d
  induction d with
  | zero => intro e he; simp; lia
  | succ d ih =>
    intro e he
    have hlt : e < l.length := by lia
    rw [List.range_succ_eq_map, List.map_cons, List.filterMap_cons]
    have : l[e + 0 * 1]? = some l[e] := by simp [hlt]
    rw [this]
    simp only [List.map_map]
    have h2 : (List.map ((fun k => e + k * 1) ∘ Nat.succ) (List.range d)) = List.map (fun k => (e + 1) + k * 1) (List.range d) := by
      apply List.map_congr_left; intro a _; simp [Function.comp]; lia
    rw [h2, ih (e + 1) (by lia)]
    exact (List.drop_eq_getElem_cons hlt).symm
theorem slice_from (l : List Nat) (e : Nat) (he : e ≤ l.length) : Txt.slice (S l) (some (e : Int)) none = S (l.drop e) := by
  have hi : strSliceIndices (some (e : Int)) none 1 (S l).length = (List.range (l.length - e)).map (fun k => e + k * 1) := by
    rw [S_len]
    unfold strSliceIndices sliceRange
    have h1 : ¬ ((e : Int) < 0) := by lia
    simp only [h1, if_false, show (1 : Int) > 0 by decide, if_true]
    have h2 : max 0 (min (e : Int) (l.length : Int)) = (e : Int) := by lia
    rw [h2]
    have h3 : ((if (e : Int) < (l.length : Int) then ((l.length : Int) - (e : Int) + 1 - 1) / 1 else 0)).toNat = l.length - e := by
      rw [Int.ediv_one]; split <;> lia
    rw [h3]
    apply List.map_congr_left
    intro k _
    lia
  unfold Txt.slice
  rw [hi]
  split
  · rename_i h
    simp only [List.length_map, List.length_range, S_len, Bool.and_eq_true, beq_iff_eq] at h
    have : e = 0 ∨ l.length = 0 := by lia
    rcases this with h0 | h0
    · subst h0; simp
    · have : l = [] := List.length_eq_zero_iff.mp h0
      subst this; simp
  · apply Str.ext'
    show (List.filterMap (fun x => (l.toArray)[x]?) _).toArray = (l.drop e).toArray
    simp only [List.getElem?_toArray]
    rw [range_drop l _ e (by lia)]
theorem slice_to0 (l : List Nat) : Txt.slice (S l) none (some 0) = S [] := by
  have hi : strSliceIndices none (some 0) 1 (S l).length = [] := by
    unfold strSliceIndices sliceRange
    have h1 : max 0 (min (0 : Int) ((S l).length : Int)) = 0 := by lia
    simp only [show ¬ ((0 : Int) < 0) by decide, if_false, show (1 : Int) > 0 by decide, if_true, h1]
    rfl
  unfold Txt.slice
  rw [hi]
  split
  · rename_i h
    simp only [List.length_nil, S_len, Bool.and_eq_true, beq_iff_eq] at h
    have : l = [] := List.length_eq_zero_iff.mp h.2.symm
    subst this; rfl
  · rfl
end Mine
end
section
open PySem PySem.W PyProof.Rows PySem.Builtin.Re PySem.Builtin
set_option maxRecDepth 100000
set_option Elab.async false
namespace Mine
noncomputable abbrev oK (w : World) (a : Addr) : Obj := ((KK w).lookup a).getD default
noncomputable abbrev lstO (its : Array Value) (n : Nat) : Obj := { cls := .type "list", data := .seq its n }
section
variable {w : World} {A : Around} {E : Value → Shared → Prop} {s : Shared} {h₀ : Heap} {L : Addr} {m : Str → Option Value} {news : List (Addr × Obj)}
theorem pk_in {a : Addr} (X : (KK w).In h₀) (keep : ∀ b o, h₀.get? b = some o → s.heap.get? b = some o) (e : (KK w).lookup a = some (oK w a)) : s.heap.get? a = some (oK w a) := keep _ _ (X a _ e)
theorem call_again {T : String} {name : Str} {id : String} {b : Builtin} {self : Value} {rest : List Value} {Q : Value → Shared → Prop} (slot : Slot T name id) (hT : s.TypeIs self T) (he : entryFor table id = some b)
    (ha : argsOk id ⟨self :: rest, []⟩)
    (h : wpAny (model pw w) A.in1 (b ⟨self :: rest, []⟩) (fun fin s' => ∃ c', fin = .again c' ∧ c'.quiet = true ∧ codeAny (model pw w) A c' (fun r s'' => ∃ v, r = .ok (.ret v) ∧ Q v s'') s') NoE s) :
    wpAny (model pw w) A (call (.builtin id) (self :: rest)) Q E s := by
  refine wpAny_call (codeAny_call_builtin slot.plain he (slot.check _ _ _ _ _ _ _ _ hT ha (wpAny_mono h (fun fin s' hf => ?_) fun _ _ f => f.elim)))
  obtain ⟨c', rfl, hq, hc⟩ := hf
  exact ⟨hq, codeAny_mono hc (fun r s'' hr => by obtain ⟨v, rfl, q⟩ := hr; exact q)⟩
theorem entry_subloop : entryFor table "re.Pattern.sub.loop" = some Builtin.«re.Pattern.sub.loop» := entryFor_of_tree (by kernel_rfl)
noncomputable abbrev subArgs (p : Addr) (x : Str) (t : Tok) (repl : Value) (way n done start : Nat) (must : Bool) (l : Addr) (wc : Bool) : List Value :=
  [.ref p, .str x t, repl, rawInt way, rawInt 0, rawInt n, rawInt done, rawInt start, .bool must, .ref l, .bool wc]
theorem pk_whole70 (x : Str) (t : Tok) : peek (KK w) ⟨pw, w.params⟩ (reWholeTarget (.ref 70) (.str x t)) = some { pattern := .ref 70, string := .str x t, code := cESC, text := x.cps, kind := 0, groups := 1, pos := 0, lim := x.cps.size } := by kernel_rfl
theorem pk_whole43 (x : Str) (t : Tok) : peek (KK w) ⟨pw, w.params⟩ (reWholeTarget (.ref 43) (.str x t)) = some { pattern := .ref 43, string := .str x t, code := cTW7, text := x.cps, kind := 0, groups := 0, pos := 0, lim := x.cps.size } := by kernel_rfl
theorem pk_whole87 (x : Str) (t : Tok) : peek (KK w) ⟨pw, w.params⟩ (reWholeTarget (.ref 87) (.str x t)) = some { pattern := .ref 87, string := .str x t, code := cJE, text := x.cps, kind := 0, groups := 1, pos := 0, lim := x.cps.size } := by kernel_rfl
theorem wp_seqItems {l : Addr} {its : Array Value} {n : Nat} {Q : Option (Array Value) → Shared → Prop} {M : Model} (hu : s.heap.get? l = some (lstO its n)) (hq : Q (some its) s) : wpAny M A (seqItems? (.ref l)) Q E s := by
  show wpAny _ _ (load l >>= _) _ _ _
  exact wpAny_bind (wpAny_load hu (wpAny_pure hq))
theorem subloop_none {p : Addr} {code : Array Nat} {gr : Nat} {x : Str} {t : Tok} {repl : Value} {l : Addr} {b : Nat} {Q : Value → Shared → Prop} {A : Around}
    (X : (KK w).In h₀) (keep : ∀ b o, h₀.get? b = some o → s.heap.get? b = some o) (pk : peek (KK w) ⟨pw, w.params⟩ (reWholeTarget (.ref p) (.str x t)) = some { pattern := .ref p, string := .str x t, code, text := x.cps, kind := 0, groups := gr, pos := 0, lim := x.cps.size })
    (hl : s.heap.get? l = some (lstO #[] 0)) (hx0 : 0 < x.cps.size) (hx : x.cps.size ≤ 100000)
    (hit : Hits b (Sre.forSearch code x.cps gr 0 x.cps.size false) Failed) (hb : b ≤ 2 ^ 40)
    (hq : ∀ t' h' tk', (∀ a o, a ≠ l → s.heap.get? a = some o → h'.get? a = some o) → Q (.str x t') { s with heap := h', toks := tk' }) :
    codeAny (model pw w) A (.builtin "re.Pattern.sub.loop" ⟨subArgs p x t repl 1 0 0 0 false l false, []⟩) (fun r s'' => ∃ v, r = .ok (.ret v) ∧ Q v s'') s := by
  refine codeAny_builtin entry_subloop ?_
  unfold Builtin.«re.Pattern.sub.loop»
  refine wpAny_bind (Looks.of_peek (M := model pw w) X pk _ _ _ s keep ?_)
  show wpAny _ _ (reNextFound _ _ _ >>= _) _ _ s
  refine wpAny_bind (wp_run hit hb fun m' f => .inr ⟨f, ?_⟩)
  dsimp only
  show wpAny _ _ (do
    if 0 < x.cps.size then updateSeq l (·.push (← mkStr ⟨x.cps.extract 0 x.cps.size⟩))
    let joiner ← mkStr ⟨x.cps.extract 0 0⟩
    let text ← if ((← seqItems? (.ref l)).getD #[]).isEmpty then pure joiner else call (.builtin "str.join") [joiner, .ref l]
    ret text) _ _ s
  rw [if_pos hx0]
  have hxl : x.cps.size ≤ sizeLine := by rw [sizeLine_eq]; lia
  refine wpAny_bind (wpAny_mkStr ?_ (by show (x.cps.extract 0 x.cps.size).size ≤ sizeLine; simp; lia))
  refine wpAny_bind (wpAny_updateSeq hl rfl ?_ (by show 0 ≤ sizeLine; decide) (by show (1 : Nat) ≤ sizeLine + 1; decide))
  dsimp only
  have hu := Heap.get?_update_self (h := s.heap) (a := l) (Obj.mapSeq (·.push (.str ⟨x.cps.extract 0 x.cps.size⟩ s.toks))) hl
  have hsb : Heap.SameBut l s.heap (s.heap.update l (Obj.mapSeq (·.push (.str ⟨x.cps.extract 0 x.cps.size⟩ s.toks)))) := Heap.SameBut.update ..
  generalize hH : s.heap.update l (Obj.mapSeq (·.push (.str ⟨x.cps.extract 0 x.cps.size⟩ s.toks))) = H at hu hsb ⊢
  have hu' : H.get? l = some (lstO #[.str ⟨x.cps.extract 0 x.cps.size⟩ s.toks] 1) := by
    first | exact hu rfl | exact hu
  refine wpAny_bind (wpAny_mkStr ?_ (by show (x.cps.extract 0 0).size ≤ sizeLine; rw [sizeLine_eq]; simp))
  refine wpAny_bind (wp_seqItems hu' ?_)
  show wpAny _ _ (call (.builtin "str.join") [.str ⟨x.cps.extract 0 0⟩ _, .ref l] >>= _) _ _ _
  refine wpAny_bind ?_
  refine SC.join (l := [(⟨x.cps.extract 0 x.cps.size⟩, s.toks)]) (texts := [⟨x.cps.extract 0 x.cps.size⟩]) ⟨_, hu', rfl, 1, rfl⟩ rfl ?_ fun t' k => ?_
  · show (!decide (0 + (x.cps.extract 0 x.cps.size).size + (x.cps.extract 0 0).size > sizeLine)) = true
    rw [sizeLine_eq, Bool.not_eq_true', decide_eq_false_iff_not]
    simp; lia
  · have e : Txt.join (⟨x.cps.extract 0 0⟩ : Str) [⟨x.cps.extract 0 x.cps.size⟩] = x := by
      show (⟨x.cps.extract 0 x.cps.size⟩ : Str) = x
      rw [show x.cps.extract 0 x.cps.size = x.cps by simp]
    rw [e]
    exact wpAny_pure ⟨_, rfl, hq _ _ _ fun a o ha e => (hsb.2 a ha).trans e⟩
end
end Mine
end
section
open PySem PySem.W PyProof.Rows PySem.Builtin.Re PySem.Builtin
set_option maxRecDepth 100000
set_option Elab.async false
namespace Mine
noncomputable abbrev fnO (fd : FuncData) : Obj := { cls := .type "function", data := .func fd }
section
variable {w : World} {A : Around} {E : Value → Shared → Prop} {s : Shared} {h₀ : Heap} {L : Addr} {m : Str → Option Value} {news : List (Addr × Obj)}
theorem news_off (F : Fr h₀ L s.heap m) (N : News h₀ L s.heap news) {l : Addr} (hl : s.heap.objs.size ≤ l) {h' : Heap} (k : ∀ a o, a ≠ l → s.heap.get? a = some o → h'.get? a = some o) : Fr h₀ L h' m ∧ News h₀ L h' news := by
  have lt : ∀ {a o}, s.heap.get? a = some o → a ≠ l := fun e => Nat.ne_of_lt (Nat.lt_of_lt_of_le (Heap.lt_size e) hl)
  obtain ⟨oL, a1, a2, hg, a3⟩ := F.ns
  exact ⟨⟨⟨oL, a1, a2, k _ _ (lt hg) hg, a3⟩, fun b o e => k _ _ (lt (F.keep b o e)) (F.keep b o e), F.above⟩, fun p hp => ⟨k _ _ (lt (N p hp).1) (N p hp).1, (N p hp).2⟩⟩
theorem sub_of {p q : Addr} {f : Addr} {fd : FuncData} {code : Array Nat} {gr : Nat} {x : Str} {t : Tok} {b : Nat} {Q : Value → Shared → Prop}
    (hgo : ∀ tk n0, goT ⟨pw, w.params⟩ n0 (goC ⟨pw, w.params⟩ n0 20) (Builtin.«re.Pattern.sub» ⟨[.ref p, .ref f, .str x t], []⟩) { toks := tk, os := [.old (fnO fd), .old (oK w p), .old (oK w q)] } =
      some (⟨tk, [lstO #[] 0], [], [(q, .old (oK w q)), (p, .old (oK w p)), (f, .old (fnO fd))]⟩, .again (.builtin "re.Pattern.sub.loop" ⟨subArgs p x t (.ref f) 1 0 0 0 false n0 false, []⟩)))
    (hp : (KK w).lookup p = some (oK w p)) (hq' : (KK w).lookup q = some (oK w q)) (hpt : ((KK w).lookup p).any isPat = true)
    (F : Fr h₀ L s.heap m) (N : News h₀ L s.heap news) (X : (KK w).In h₀) (pk : peek (KK w) ⟨pw, w.params⟩ (reWholeTarget (.ref p) (.str x t)) = some { pattern := .ref p, string := .str x t, code, text := x.cps, kind := 0, groups := gr, pos := 0, lim := x.cps.size })
    (hf : (f, fnO fd) ∈ news) (hx0 : 0 < x.cps.size) (hx : x.cps.size ≤ 100000)
    (hit : Hits b (Sre.forSearch code x.cps gr 0 x.cps.size false) Failed) (hb : b ≤ 2 ^ 40)
    (hq : ∀ t' h' tk', Fr h₀ L h' m → News h₀ L h' news → Q (.str x t') { s with heap := h', toks := tk' }) :
    wpAny (model pw w) A (call (.builtin "re.Pattern.sub") [.ref p, .ref f, .str x t]) Q E s := by
  refine call_again slot_re_Pattern_sub (pat_is X F.keep hpt).1 entry_re_Pattern_sub (args_re_Pattern_sub_3 _ _ _) ?_
  refine go2 20 [(f, .old (fnO fd)), (p, .old (oK w p)), (q, .old (oK w q))] (hgo _ _) (fun y hy => ?_) ⟨_, rfl, plainId_quiet (by decide +kernel) _, ?_⟩
  · simp only [List.mem_cons, List.not_mem_nil, or_false] at hy
    rcases hy with rfl | rfl | rfl
    · exact N.get hf
    · exact pk_in X F.keep hp
    · exact pk_in X F.keep hq'
  · have hsz := Heap.get?_push_size s.heap (o := lstO #[] 0) rfl
    refine subloop_none (l := s.heap.objs.size) X (fun b o e => Heap.get?_push_of_some _ (F.keep b o e)) pk hsz hx0 hx hit hb fun t' h' tk' hk => ?_
    have z := news_off F N (l := s.heap.objs.size) (Nat.le_refl _) (h' := h') fun a o ha e => hk a o ha (Heap.get?_push_of_some _ e)
    exact hq _ _ _ z.1 z.2
theorem sub70 {f : Addr} {fd : FuncData} {x : Str} {t : Tok} {b : Nat} {Q : Value → Shared → Prop} (F : Fr h₀ L s.heap m) (N : News h₀ L s.heap news) (X : (KK w).In h₀) (hf : (f, fnO fd) ∈ news) (hx0 : 0 < x.cps.size) (hx : x.cps.size ≤ 100000)
    (hit : Hits b (Sre.forSearch cESC x.cps 1 0 x.cps.size false) Failed) (hb : b ≤ 2 ^ 40)
    (hq : ∀ t' h' tk', Fr h₀ L h' m → News h₀ L h' news → Q (.str x t') { s with heap := h', toks := tk' }) :
    wpAny (model pw w) A (call (.builtin "re.Pattern.sub") [.ref 70, .ref f, .str x t]) Q E s :=
  sub_of (q := 69) (fun tk n0 => by kernel_rfl) (by kernel_rfl) (by kernel_rfl) (by kernel_rfl) F N X (pk_whole70 x t) hf hx0 hx hit hb hq
theorem sub87 {f : Addr} {fd : FuncData} {x : Str} {t : Tok} {b : Nat} {Q : Value → Shared → Prop} (F : Fr h₀ L s.heap m) (N : News h₀ L s.heap news) (X : (KK w).In h₀) (hf : (f, fnO fd) ∈ news) (hx0 : 0 < x.cps.size) (hx : x.cps.size ≤ 100000)
    (hit : Hits b (Sre.forSearch cJE x.cps 1 0 x.cps.size false) Failed) (hb : b ≤ 2 ^ 40)
    (hq : ∀ t' h' tk', Fr h₀ L h' m → News h₀ L h' news → Q (.str x t') { s with heap := h', toks := tk' }) :
    wpAny (model pw w) A (call (.builtin "re.Pattern.sub") [.ref 87, .ref f, .str x t]) Q E s :=
  sub_of (q := 86) (fun tk n0 => by kernel_rfl) (by kernel_rfl) (by kernel_rfl) (by kernel_rfl) F N X (pk_whole87 x t) hf hx0 hx hit hb hq
end
end Mine
end
section
open PySem PySem.W PySem.W.X PyProof.Rows
set_option maxRecDepth 100000
set_option Elab.async false
namespace Mine
noncomputable def TabR : List Value → Prop
  | [] => True
  | .int _ _ :: .int _ _ :: .ref _ :: rest => TabR rest
  | _ => False
theorem TabR.triples : ∀ {l : List Value}, TabR l → TriplesOk l := by
  intro l
  fun_induction TabR l with
  | case1 => intro _; trivial
  | case2 a t b u x rest ih => intro h; exact ih h
  | case3 l _ _ => intro h; exact h.elim
theorem TabR.among {pos : Pos} : ∀ {l : List Value}, TabR l → codeAmong pos l = none ∨ ∃ c, codeAmong pos l = some (.ref c) := by
  intro l
  fun_induction TabR l with
  | case1 => intro _; exact .inl rfl
  | case2 a t b u x rest ih =>
    intro h
    unfold codeAmong
    split
    · exact .inr ⟨_, rfl⟩
    · exact ih h
  | case3 l _ _ => intro h; exact h.elim
theorem TabR.snoc {a b : Int} {t u : Tok} {c : Addr} : ∀ {l : List Value}, TabR l → TabR (l ++ [.int a t, .int b u, .ref c]) := by
  intro l
  fun_induction TabR l with
  | case1 => intro _; trivial
  | case2 a t b u x rest ih => intro h; exact ih h
  | case3 l _ _ => intro h; exact h.elim
section
variable {M : Model} {A : Around} {E : Value → Shared → Prop} {s : Shared} {h₀ : Heap} {L a c P : Addr} {m mg mb : Str → Option Value} {cn : Str} {cs : Scope} {ccd : Value} {cl : List (Str × Addr)} {news : List (Addr × Obj)} {g : Obj → List (Addr × Obj)}
  {p : Program} {loose : List Str} {mean : ExcName → Option Value} {name qual : Str} {params : Arguments} {body : Expr} {scope : Scope} {ps : Array Value} {pos : Pos} {firstLine : Nat} {clos : List (Str × Addr)}
theorem lam_any {Q : Value → Shared → Prop} (F : Fr h₀ L s.heap m) (N : News h₀ L s.heap news) (T : Top p loose mean mg mb h₀) (C : CodeHd h₀ c P) (hcd : ccd = .ref c) (U : UpdF P (tabObj ps) news g) (ht : TabR ps.toList)
    (hcl : closureFor scope (envX cn cs L a ccd cl) = pure clos)
    (h : ∀ f fd ps' h' tk, Fr h₀ L h' m → News h₀ L h' ((f, fnO fd) :: g (tabObj ps')) → TabR ps'.toList → (∀ q ∈ news, q.1 < f) → Q (.ref f) { s with heap := h', toks := tk }) :
    wpAny M A (makeFunction name qual params (.expr body) scope (envX cn cs L a ccd cl) [] [] [] pos firstLine) Q E s := by
  have hmem : (P, tabObj ps) ∈ news := by
    obtain ⟨pre, post, rfl, _, _, _⟩ := U.split; simp
  rcases ht.among (pos := pos) with hn | ⟨c', hs⟩
  · refine kla_nest F N T C hcd U ht.triples hn hcl fun f c' oc vs t ctv h' tk F' N' _ _ l1 l2 => ?_
    have N2 : News h₀ L h' ((f, fnO (kla_fn name qual params body scope clos ((mg "__name__").getD .none) (.ref c') ctv)) :: g (tabObj (ps ++ #[rawInt pos.line, rawInt pos.col, .ref c']))) := fun q hq => N' q (by
      rcases List.mem_cons.mp hq with rfl | hq
      · exact .head _
      · exact .tail _ (.tail _ hq))
    refine h f _ _ h' tk F' N2 ?_ (fun q hq => Nat.lt_trans (l1 q hq) l2)
    rw [Array.toList_append]; exact ht.snoc
  · refine kla_hit F N T C hcd hmem ht.triples hs hcl fun f ctv h' tk F' N' l1 => ?_
    obtain ⟨pre, post, e, hg, _, _⟩ := U.split
    refine h f (kla_fn name qual params body scope clos ((mg "__name__").getD .none) (.ref c') ctv) ps h' tk F' ?_ ht l1
    rw [hg, ← e]
    exact N'
end
noncomputable def codeFields (vs : Array Value) (c P : Addr) : Bool := match vs[11]? with
  | some (Value.ref P') => (match vs.getD 11 .none with
    | Value.ref P'' => (match vs.getD 18 .none with
      | Value.str _ _ => (match vs.getD 7 .none with
        | Value.int _ _ => (match vs.getD 9 .none with
          | Value.bool _ => (match vs.getD 10 .none with
            | Value.int _ _ => Nat.beq P' P && Nat.beq P'' P && !Nat.beq c P
            | _ => false)
          | _ => false)
        | _ => false)
      | _ => false)
    | _ => false)
  | _ => false
noncomputable def codeHdIn (K : Frag) (c P : Addr) : Bool := match K.lookup c with
  | some ⟨.type t, _, .fields vs, _⟩ => t == "code" && codeFields vs c P
  | _ => false
theorem codeHd_of {K : Frag} {h : Heap} (X : K.In h) {c P : Addr} (e : codeHdIn K c P = true) : CodeHd h c P := by
  unfold codeHdIn at e
  split at e
  · rename_i t x2 vs x3 hl
    rw [Bool.and_eq_true, beq_iff_eq] at e
    obtain ⟨rfl, e⟩ := e
    unfold codeFields at e
    split at e
    · rename_i P' e1
      split at e
      · rename_i P'' e2
        split at e
        · rename_i a1 a2 e3
          split at e
          · rename_i b1 b2 e4
            split at e
            · rename_i c1 e5
              split at e
              · rename_i d1 d2 e6
                simp only [Bool.and_eq_true, Nat.beq_eq, Bool.not_eq_true'] at e
                obtain ⟨⟨rfl, rfl⟩, hne⟩ := e
                exact ⟨_, vs, _, _, _, _, _, _, _, X _ _ hl, rfl, rfl, e1, e2, e3, e4, e5, e6, fun q => by subst q; simp at hne⟩
              · cases e
            · cases e
          · cases e
        · cases e
      · cases e
    · cases e
  · cases e
section
variable {w : World} {h : Heap}
theorem code76 (X : (KK w).In h) : CodeHd h 76 72 := codeHd_of X (by kernel_rfl)
theorem code93 (X : (KK w).In h) : CodeHd h 93 89 := codeHd_of X (by kernel_rfl)
theorem code212 (X : (KK w).In h) : CodeHd h 212 208 := codeHd_of X (by kernel_rfl)
end
end Mine
end
section
open PySem PySem.W PySem.W.X PyProof.Rows
set_option maxRecDepth 100000
set_option Elab.async false
namespace Mine
structure Fc where
  w : World
  p : Program
  loose : List Str
  mean : ExcName → Option Value
  mg : Str → Option Value
  mb : Str → Option Value
  dp : Nat
  un : Nat
  gd : Option (List Code)
  cn : Str
  cs : Scope
  L : Addr
  a : Addr
  ccd : Value
  cl : List (Str × Addr)
  outer : List Env
  A₀ : Around
  base : Heap
  g : Heap
  q : List Value → Prop
noncomputable abbrev Fc.env (c : Fc) : Env := envX c.cn c.cs c.L c.a c.ccd c.cl
noncomputable abbrev Fc.A (c : Fc) : Around := ktrTop c.dp c.un c.gd c.cn c.cs c.L c.a c.ccd c.cl c.outer
noncomputable abbrev Fc.M (c : Fc) : Model := model PySem.Challenge.pw_kq0058_01 c.w
structure Fc.Ok (c : Fc) (d u : Nat) : Prop where
  X : (hd.heap_1 c.w.params).In c.g
  T : Top c.p c.loose c.mean c.mg c.mb c.g
  B : Below c.A₀ c.base c.outer c.g
  hk : c.cs.kind = .function
  dp : c.dp + d < recursionLimit
  un : c.un + u < cLine
theorem Fc.Ok.le {c : Fc} {d u d' u' : Nat} (O : c.Ok d u) (h1 : d' ≤ d) (h2 : u' ≤ u) : c.Ok d' u' := ⟨O.X, O.T, O.B, O.hk, Nat.lt_of_le_of_lt (Nat.add_le_add_left h1 _) O.dp, Nat.lt_of_le_of_lt (Nat.add_le_add_left h2 _) O.un⟩
noncomputable abbrev Led := List (Addr × Obj)
inductive El where
  | d (x : Dat)
  | at (a : Addr)
  | fn (fd : FuncData) (cc : Addr) (oc : Obj)
noncomputable def El.Is (fz : Led) : El → Value → Prop
  | .d x, v => DatIn fz v x
  | .at a, v => v = .ref a
  | .fn fd cc oc, v => ∃ f, v = .ref f ∧ (f, fnO fd) ∈ fz ∧ (cc, oc) ∈ fz
inductive ElAll (fz : Led) : List Value → List El → Prop
  | nil : ElAll fz [] []
  | cons {v : Value} {vs : List Value} {e : El} {es : List El} : e.Is fz v → ElAll fz vs es → ElAll fz (v :: vs) (e :: es)
theorem El.Is.mono {fz fz' : Led} (hs : ∀ p ∈ fz, p ∈ fz') : ∀ {e : El} {v : Value}, e.Is fz v → e.Is fz' v
  | .d _, _, h => DatIn.mono hs h
  | .at _, _, h => h
  | .fn _ _ _, _, ⟨f, e, h1, h2⟩ => ⟨f, e, hs _ h1, hs _ h2⟩
theorem ElAll.mono {fz fz' : Led} (hs : ∀ p ∈ fz, p ∈ fz') {vs : List Value} {es : List El} (h : ElAll fz vs es) : ElAll fz' vs es := by
  induction h with
  | nil => exact .nil
  | cons a _ ih => exact .cons (a.mono hs) ih
theorem ElAll.length {fz : Led} {vs : List Value} {es : List El} (h : ElAll fz vs es) : vs.length = es.length := by
  induction h with
  | nil => rfl
  | cons _ _ ih => exact congrArg (· + 1) ih
theorem ElAll.snoc {fz : Led} {v : Value} {e : El} {vs : List Value} {es : List El} (h : ElAll fz vs es) (h1 : e.Is fz v) : ElAll fz (vs ++ [v]) (es ++ [e]) := by
  induction h with
  | nil => exact .cons h1 .nil
  | cons a _ ih => exact .cons a ih
theorem ElAll.dats {fz : Led} : ∀ {ds : List Dat} {vs : List Value}, ElAll fz vs (ds.map .d) → DatAll fz vs ds
  | [], _, h => by cases h; exact .nil
  | _ :: _, _, h => by cases h with | cons a b => exact .cons a b.dats
inductive Rv where
  | d (x : Dat)
  | ownE (ad : Option Addr) (l : List El)
  | lsE (l : List El)
  | bm (a : Addr)
  | zp (e1 e2 : El)
  | fn (fd : FuncData) (cc : Addr) (oc : Obj)
  | val (v : Value)
  | ob (f : (Nat → Nat) → Obj)
  | mt (l : List Nat) (pp lim e b1 e1 : Nat)
noncomputable abbrev Rv.own (l : List Dat) : Rv := .ownE none (l.map .d)
noncomputable abbrev bmO (id : String) (l : Addr) : Obj := { cls := .type "builtin_function_or_method", data := .fields #[.builtin id, .ref l] }
noncomputable def Rv.Is (mu fz : Led) : Rv → Value → Prop
  | .d x, v => DatIn fz v x
  | .ownE ad l, v => ∃ a vs n, v = .ref a ∧ (∀ b, ad = some b → b = a) ∧ (a, lstO (List.toArray vs) n) ∈ mu ∧ ElAll fz vs l
  | .lsE l, v => ∃ a vs n, v = .ref a ∧ (a, lstO (List.toArray vs) n) ∈ fz ∧ ElAll fz vs l
  | .bm a, v => ∃ q, v = .ref q ∧ (q, bmO "list.append" a) ∈ fz
  | .zp _ _, _ => False
  | .fn fd cc oc, v => ∃ f, v = .ref f ∧ (f, fnO fd) ∈ fz ∧ (cc, oc) ∈ fz
  | .val u, v => v = u
  | .ob f, v => ∃ a x, v = .ref a ∧ (a, f x) ∈ fz
  | .mt l pp lim e b1 e1, v => ∃ Mt Tt t, v = .ref Mt ∧ (Mt, matO (S l) t pp lim 1 Tt) ∈ fz ∧ (Tt, tupO [.int ((0 : Nat) : Int) 0, .int (e : Int) 0, .int (b1 : Int) 0, .int (e1 : Int) 0]) ∈ fz
theorem Rv.Is.mono {mu fz fz' : Led} (hs : ∀ p ∈ fz, p ∈ fz') : ∀ {r : Rv} {v : Value}, r.Is mu fz v → r.Is mu fz' v
  | .d _, _, h => DatIn.mono hs h
  | .ownE _ _, _, ⟨a, vs, n, e, hb, hm, hd⟩ => ⟨a, vs, n, e, hb, hm, hd.mono hs⟩
  | .lsE _, _, ⟨a, vs, n, e, hm, hd⟩ => ⟨a, vs, n, e, hs _ hm, hd.mono hs⟩
  | .bm _, _, ⟨q, e, h⟩ => ⟨q, e, hs _ h⟩
  | .zp _ _, _, h => h.elim
  | .fn _ _ _, _, ⟨f, e, h1, h2⟩ => ⟨f, e, hs _ h1, hs _ h2⟩
  | .val _, _, h => h
  | .ob _, _, ⟨a, x, e, h⟩ => ⟨a, x, e, hs _ h⟩
  | .mt .., _, ⟨a, b, t, e, h1, h2⟩ => ⟨a, b, t, e, hs _ h1, hs _ h2⟩
noncomputable def El.rv : El → Rv
  | .d x => .d x
  | .at a => .val (.ref a)
  | .fn fd cc oc => .fn fd cc oc
theorem El.rvIs {mu fz : Led} {e : El} {v : Value} (h : e.Is fz v) : e.rv.Is mu fz v := by cases e <;> exact h
noncomputable def Rv.nz : Rv → Bool
  | .zp _ _ => false
  | .ownE _ _ => false
  | _ => true
noncomputable def Rv.At (mu fz : Led) (h : Heap) (r : Rv) (v : Value) : Prop := r.Is mu fz v ∨ ∃ e1 e2 T a b, r = .zp e1 e2 ∧ v = .ref T ∧ h.IsTuple T #[a, b] ∧ e1.Is fz a ∧ e2.Is fz b
theorem Rv.At.mono {mu fz fz' : Led} {h : Heap} (hs : ∀ p ∈ fz, p ∈ fz') {r : Rv} {v : Value} (k : r.At mu fz h v) : r.At mu fz' h v := k.elim (fun k => .inl (k.mono hs)) fun ⟨e1, e2, T, a, b, k0, k1, k2, k3, k4⟩ => .inr ⟨e1, e2, T, a, b, k0, k1, k2, k3.mono hs, k4.mono hs⟩
theorem Rv.At.is {mu fz : Led} {h : Heap} {r : Rv} {v : Value} (hz : r.nz = true) (k : r.At mu fz h v) : r.Is mu fz v := k.resolve_right fun ⟨e1, e2, T, a, b, k0, _⟩ => by subst k0; cases hz
theorem Rv.At.z {mu fz : Led} {h : Heap} {e1 e2 : El} {v : Value} (k : (Rv.zp e1 e2).At mu fz h v) : ∃ T a b, v = .ref T ∧ h.IsTuple T #[a, b] ∧ e1.Is fz a ∧ e2.Is fz b := by
  rcases k with k | ⟨_, _, T, a, b, k0, k1, k2, k3, k4⟩
  · exact k.elim
  · cases k0; exact ⟨T, a, b, k1, k2, k3, k4⟩
noncomputable def Tb (q : List Value → Prop) (tb : Led) : Prop := ∃ p1 p2 p3 p4, tb = [(208, tabObj p1), (89, tabObj p2), (72, tabObj p3), (242, tabObj p4)] ∧ TabR p1.toList ∧ TabR p2.toList ∧ TabR p3.toList ∧ q p4.toList
noncomputable abbrev tabs : List Addr := [208, 89, 72, 242]
inductive Nm (env : Env) (mm : Str → Option Value) (mu : Led) (x : Str) (v : Value) : Prop
  | loc (hx : env.kindOf x = some .local) (hd : (x == ("__debug__" : Str)) = false) (e : mm x = some v)
  | cell {a : Addr} {o : Obj} (hx : env.kindOf x = some .cell) (hd : (x == ("__debug__" : Str)) = false) (hc : env.cells.lookup x = some a) (hm : (a, o) ∈ mu) (ho : o.data = .cell (some v))
structure Es (c : Fc) (env : Env) (Γ : Str → Option Rv) (xt mu fz : Led) (m mm : Str → Option Value) (h : Heap) : Prop where
  F : Fr c.g c.L h m
  N : ∃ tb, Tb c.q tb ∧ News c.g c.L h (xt ++ (mu ++ (tb ++ fz)))
  nd : ((xt ++ mu).map (·.1)).Nodup
  of : ∀ p ∈ fz, p.1 ∉ (xt ++ mu).map (·.1)
  ot : ∀ p ∈ xt ++ (mu ++ fz), p.1 ∉ tabs
  hn : (env.locals = c.L ∧ mm = m) ∨ ∃ oC, (env.locals, oC) ∈ xt ∧ LCg.NsObj oC mm
  lc : ∀ x r, Γ x = some r → ∃ v, Nm env mm mu x v ∧ r.Is mu fz v
  ce : ∀ x a, env.kindOf x = some .cell → env.cells.lookup x = some a → ∃ o v, (a, o) ∈ mu ∧ o.data = .cell v
  sep : ∀ x y ax ay lx ly v, Γ x = some (.ownE ax lx) → Γ y = some (.ownE ay ly) → Nm env mm mu x v → Nm env mm mu y v → x = y
section
variable {c : Fc} {env : Env} {Γ : Str → Option Rv} {xt mu fz : Led} {m mm : Str → Option Value} {h h' : Heap}
theorem Es.get (S : Es c env Γ xt mu fz m mm h) {p : Addr × Obj} (hp : p ∈ xt ∨ p ∈ mu ∨ p ∈ fz) : h.get? p.1 = some p.2 ∧ p.1 ≠ c.L ∧ c.g.get? p.1 = none := by
  obtain ⟨tb, _, N⟩ := S.N
  exact N p (by simp only [List.mem_append]; rcases hp with h | h | h <;> simp [h])
theorem Es.ns (S : Es c env Γ xt mu fz m mm h) : h.Ns env.locals mm := by
  rcases S.hn with ⟨e, rfl⟩ | ⟨oC, hm, hC⟩
  · rw [e]; exact S.F.ns
  · exact hC.ns (S.get (p := (env.locals, oC)) (.inl hm)).1
theorem Es.move (S : Es c env Γ xt mu fz m mm h) (F' : Fr c.g c.L h' m) (N' : ∃ tb, Tb c.q tb ∧ News c.g c.L h' (xt ++ (mu ++ (tb ++ fz)))) : Es c env Γ xt mu fz m mm h' := ⟨F', N', S.nd, S.of, S.ot, S.hn, S.lc, S.ce, S.sep⟩
theorem Es.more {fz' : Led} (S : Es c env Γ xt mu fz m mm h) (F' : Fr c.g c.L h' m) (N' : ∃ tb, Tb c.q tb ∧ News c.g c.L h' (xt ++ (mu ++ (tb ++ fz')))) (hs : ∀ p ∈ fz, p ∈ fz') (ho : ∀ p ∈ fz', p ∈ fz ∨ (p.1 ∉ (xt ++ mu).map (·.1) ∧ p.1 ∉ tabs)) : Es c env Γ xt mu fz' m mm h' :=
  ⟨F', N', S.nd, fun p hp => (ho p hp).elim (S.of p) (·.1), fun p hp => by
    rcases List.mem_append.mp hp with hp | hp
    · exact S.ot p (List.mem_append_left _ hp)
    · rcases List.mem_append.mp hp with hp | hp
      · exact S.ot p (List.mem_append_right _ (List.mem_append_left _ hp))
      · exact (ho p hp).elim (fun h => S.ot p (List.mem_append_right _ (List.mem_append_right _ h))) (·.2), S.hn, fun x r e => by
    obtain ⟨v, h1, h2⟩ := S.lc x r e
    exact ⟨v, h1, h2.mono hs⟩, S.ce, S.sep⟩
theorem Tb.mem {q : List Value → Prop} {tb : Led} (T : Tb q tb) : ∀ t ∈ tabs, ∃ o, (t, o) ∈ tb := by
  obtain ⟨p1, p2, p3, p4, rfl, _⟩ := T
  intro t ht
  simp only [tabs, List.mem_cons, List.not_mem_nil, or_false] at ht
  rcases ht with rfl | rfl | rfl | rfl
  · exact ⟨_, .head _⟩
  · exact ⟨_, .tail _ (.head _)⟩
  · exact ⟨_, .tail _ (.tail _ (.head _))⟩
  · exact ⟨_, .tail _ (.tail _ (.tail _ (.head _)))⟩
theorem Es.alloc {tb : Led} {a : Addr} {o : Obj} (S : Es c env Γ xt mu fz m mm h) (T : Tb c.q tb) (F' : Fr c.g c.L h' m) (N' : News c.g c.L h' ((a, o) :: (xt ++ (mu ++ (tb ++ fz))))) (l : ∀ p ∈ xt ++ (mu ++ (tb ++ fz)), p.1 < a) : Es c env Γ xt mu ((a, o) :: fz) m mm h' := by
  refine S.more F' ⟨tb, T, fun p hp => N' p ?_⟩ (fun p hp => .tail _ hp) fun p hp => ?_
  · simp only [List.mem_append, List.mem_cons] at hp ⊢
    rcases hp with h | h | h | h | h <;> simp [h]
  · rcases List.mem_cons.mp hp with rfl | hp
    · refine .inr ⟨fun hm => ?_, fun hm => ?_⟩
      · obtain ⟨q, hq, e⟩ := List.mem_map.mp hm
        have := l q (by simp only [List.mem_append] at hq ⊢; rcases hq with h | h <;> simp [h])
        exact Nat.lt_irrefl _ (e ▸ this)
      · obtain ⟨o', ho'⟩ := T.mem _ hm
        exact Nat.lt_irrefl _ (l _ (List.mem_append_right _ (List.mem_append_right _ (List.mem_append_left _ ho'))))
    · exact .inl hp
end
structure EvT (c : Fc) (env : Env) (Γ : Str → Option Rv) (e : Expr) (r : Rv) : Prop where
  run : ∀ xt mu fz m mm (s : Shared) (Q E : Value → Shared → Prop), Es c env Γ xt mu fz m mm s.heap →
    (∀ v fz' h' tk, (∀ p ∈ fz, p ∈ fz') → Es c env Γ xt mu fz' m mm h' → r.Is mu fz' v → Q v { s with heap := h', toks := tk }) → wpAny c.M c.A (eval e env) Q E s
section
variable {c : Fc} {env : Env} {Γ : Str → Option Rv} {e : Expr} {pos : Pos} {k : Nat}
theorem EvT.cint {i : Int} : EvT c env Γ (.Constant (.int i) k pos) (.d (.int i)) := ⟨fun xt mu fz m mm s Q E S q => wpAny_Constant_int (q _ fz s.heap _ (fun _ h => h) S (.int _ _))⟩
theorem EvT.cstr {x : Str} : EvT c env Γ (.Constant (.str x) k pos) (.d (.str x)) := ⟨fun xt mu fz m mm s Q E S q => wpAny_Constant_str (q _ fz s.heap _ (fun _ h => h) S (.str _ _))⟩
theorem EvT.cnone : EvT c env Γ (.Constant .none k pos) (.d .none) := ⟨fun xt mu fz m mm s Q E S q => wpAny_Constant_none (q _ fz s.heap s.toks (fun _ h => h) S .none)⟩
theorem EvT.cname {x : Str} {r : Rv} (hk : env.scope.kind = .function) (h : Γ x = some r) : EvT c env Γ (.Name x pos) r := ⟨fun xt mu fz m mm s Q E S q => by
  obtain ⟨v, hn, hv⟩ := S.lc x r h
  have z := q v fz s.heap s.toks (fun _ h => h) S hv
  cases hn with
  | loc hx hd e => exact wpAny_Name (wpAny_loadName_local hk hx S.ns e z) hd
  | cell hx hd hc hm ho => exact wpAny_Name (wpAny_loadName_cell hk hx hc ⟨_, (S.get (.inr (.inl hm))).1, ho⟩ z) hd⟩
theorem EvT.glob {x : Str} {v : Value} {d u : Nat} (O : c.Ok d u) (e : nsIn (hd.heap_1 c.w.params) mainGlobals x = some (some v)) (hg : env.globals = mainGlobals := by rfl)
    (hk : env.scope.kind = .function := by rfl) (hx : env.kindOf x = some .globalImplicit := by rfl) (hd : (x == ("__debug__" : Str)) = false := by decide) : EvT c env Γ (.Name x pos) (.val v) := ⟨fun xt mu fz m mm s Q E S q =>
  Calls.Name_function_global hk hx (Calls.loadGlobal_global (env := env) (show s.heap.Ns env.globals c.mg from hg ▸ (O.T.keeps S.F.keep).g) (mg_of O.X O.T.g e) (q v fz s.heap s.toks (fun _ h => h) S rfl)) hd⟩
theorem EvT.as {r r' : Rv} (h : EvT c env Γ e r) (q : r = r') : EvT c env Γ e r' := q ▸ h
end
end Mine
end
section
open PySem PySem.W PySem.W.X PyProof.Rows PySem.Builtin.Str
set_option maxRecDepth 100000
set_option Elab.async false
namespace Mine
noncomputable abbrev Gm := Str → Option Rv
structure BinT (op : Operator) (x y r : Rv) : Prop where
  run : ∀ {w : World} {A : Around} {mu fz : Led} {s : Shared} {Q E : Value → Shared → Prop} {va vb : Value}, x.Is mu fz va → y.Is mu fz vb → (∀ v tk, r.Is mu fz v → Q v { s with toks := tk }) → wpAny (model PySem.Challenge.pw_kq0058_01 w) A (binaryOp op va vb) Q E s
section
variable {a b : Int} {x y : Str}
theorem BinT.ofI {op : Operator} {r : Int} (h : ∀ {w : World} {A : Around} {s : Shared} {Q E : Value → Shared → Prop} {t u : Tok}, (∀ v tk, v = .int r tk → Q v { s with toks := s.toks + 1 }) → wpAny (model PySem.Challenge.pw_kq0058_01 w) A (binaryOp op (.int a t) (.int b u)) Q E s) : BinT op (.d (.int a)) (.d (.int b)) (.d (.int r)) := by
  constructor
  intro w A mu fz s Q E va vb ha hb q
  cases ha with | int _ t => cases hb with | int _ u => exact h fun v tk e => by subst e; exact q _ _ (.int _ _)
theorem BinT.add : BinT .Add (.d (.int a)) (.d (.int b)) (.d (.int (a + b))) := BinT.ofI fun q => add_int (q _ _ rfl)
theorem BinT.sub : BinT .Sub (.d (.int a)) (.d (.int b)) (.d (.int (a - b))) := BinT.ofI fun q => PyProof.Rows.sub_int (q _ _ rfl)
theorem BinT.mul (h : IntMulOk a b) : BinT .Mult (.d (.int a)) (.d (.int b)) (.d (.int (a * b))) := BinT.ofI fun q => mul_int (q _ _ rfl) h
theorem BinT.fdiv (h0 : b ≠ 0) (h : Builtin.divisionGoesByPylong a b = false) : BinT .FloorDiv (.d (.int a)) (.d (.int b)) (.d (.int (a.fdiv b))) := BinT.ofI fun q => floordiv_int h0 (q _ _ rfl) (.inl h)
theorem BinT.fmod (h0 : b ≠ 0) : BinT .Mod (.d (.int a)) (.d (.int b)) (.d (.int (a.fmod b))) := BinT.ofI fun q => mod_int' h0 (q _ _ rfl)
theorem BinT.pow (h0 : 0 ≤ b) (h1 : b ≤ 1000000) (h2 : a.natAbs < 2 ^ 64) : BinT .Pow (.d (.int a)) (.d (.int b)) (.d (.int (a ^ b.toNat))) := BinT.ofI fun q => pow_int_small h0 h1 h2 (q _ _ rfl)
theorem BinT.shl (h0 : 0 ≤ b) (h1 : b ≤ 1000) (h2 : a.natAbs < 2 ^ 64) : BinT .LShift (.d (.int a)) (.d (.int b)) (.d (.int (a * 2 ^ b.toNat))) := BinT.ofI fun q => lshift_int_small h0 (Int.le_trans h1 (by decide)) h2 (q _ _ rfl)
theorem BinT.shr (h0 : 0 ≤ b) : BinT .RShift (.d (.int a)) (.d (.int b)) (.d (.int (a.fdiv (2 ^ b.toNat)))) := BinT.ofI fun q => rshift_int h0 (q _ _ rfl)
theorem BinT.and : BinT .BitAnd (.d (.int a)) (.d (.int b)) (.d (.int (Builtin.bitAnd a b))) := BinT.ofI fun q => and_int (q _ _ rfl)
theorem BinT.or : BinT .BitOr (.d (.int a)) (.d (.int b)) (.d (.int (Builtin.bitOr a b))) := BinT.ofI fun q => or_int (q _ _ rfl)
theorem BinT.cat (h1 : x.length ≤ 1000000) (h2 : y.length ≤ 1000000) : BinT .Add (.d (.str x)) (.d (.str y)) (.d (.str (x ++ y))) := by
  constructor
  intro w A mu fz s Q E va vb ha hb q
  cases ha with | str _ t => cases hb with | str _ u => exact KXadd.add h1 h2 (by decide) fun t' k _ => q _ _ (.str _ _)
end
section
variable {c : Fc} {env : Env} {Γ : Gm} {pos : Pos}
theorem EvT.bin {a b : Expr} {op : Operator} {x y r : Rv} (ha : EvT c env Γ a x) (hb : EvT c env Γ b y) (h : BinT op x y r) : EvT c env Γ (.BinOp a op b pos) r := ⟨fun xt mu fz m mm s Q E S q =>
  wpAny_BinOp (ha.run xt mu fz m mm s _ E S fun va f1 h1 k1 s1 S1 v1 => hb.run xt mu f1 m mm _ _ E S1 fun vb f2 h2 k2 s2 S2 v2 => h.run (v1.mono s2) v2 fun v tk hv => q v f2 h2 tk (fun p hp => s2 p (s1 p hp)) S2 hv)⟩
theorem EvT.neg {i : Int} {k : Nat} {p2 : Pos} : EvT c env Γ (.UnaryOp .USub (.Constant (.int i) k p2) pos) (.d (.int (-i))) := ⟨fun xt mu fz m mm s Q E S q =>
  wpAny_UnaryOp (wpAny_Constant_int (neg_int (q _ fz s.heap _ (fun _ h => h) S (.int _ _))))⟩
structure CmpT (op : CmpOp) (x y : Rv) (b : Bool) : Prop where
  run : ∀ {c : Fc} {env : Env} {Γ : Gm} {xt mu fz : Led} {m mm : Str → Option Value} {s : Shared} {Q E : Value → Shared → Prop} {va vb : Value}, c.un + 64 < cLine → Es c env Γ xt mu fz m mm s.heap → x.Is mu fz va → y.Is mu fz vb → Q (.bool b) s → wpAny c.M c.A (compareOp op va vb) Q E s
theorem EvT.cmp {a b : Expr} {op : CmpOp} {x y : Rv} {r : Bool} (hu : c.un + 64 < cLine) (ha : EvT c env Γ a x) (hb : EvT c env Γ b y) (h : CmpT op x y r) (hm : behindInMarks op b = false := by with_unfolding_all rfl) : EvT c env Γ (.Compare a [op] [b] pos) (.d (.bool r)) := ⟨fun xt mu fz m mm s Q E S q =>
  wpAny_Compare1 (ha.run xt mu fz m mm s _ E S fun va f1 h1 k1 s1 S1 v1 => hb.run xt mu f1 m mm _ _ E S1 fun vb f2 h2 k2 s2 S2 v2 => h.run hu S2 (v1.mono s2) v2 (q _ f2 h2 k2 (fun p hp => s2 p (s1 p hp)) S2 (.bool _))) hm⟩
end
section
variable {a b : Int} {x y : Str}
theorem CmpT.ofI {op : CmpOp} {r : Bool} (h : ∀ {w : World} {A : Around} {s : Shared} {Q E : Value → Shared → Prop} {t u : Tok}, Q (.bool r) s → wpAny (model PySem.Challenge.pw_kq0058_01 w) A (compareOp op (.int a t) (.int b u)) Q E s) : CmpT op (.d (.int a)) (.d (.int b)) r := by
  constructor
  intro c env Γ xt mu fz m mm s Q E va vb _ _ ha hb q
  cases ha with | int _ t => cases hb with | int _ u => exact h q
theorem CmpT.eqI : CmpT .Eq (.d (.int a)) (.d (.int b)) (a == b) := CmpT.ofI fun q => PyProof.Rows.eq_int q
theorem CmpT.neI : CmpT .NotEq (.d (.int a)) (.d (.int b)) (a != b) := CmpT.ofI fun q => ne_int q
theorem CmpT.ltI : CmpT .Lt (.d (.int a)) (.d (.int b)) (decide (a < b)) := CmpT.ofI fun q => PyProof.Rows.lt_int q
theorem CmpT.leI : CmpT .LtE (.d (.int a)) (.d (.int b)) (decide (a ≤ b)) := CmpT.ofI fun q => le_int q
theorem CmpT.gtI : CmpT .Gt (.d (.int a)) (.d (.int b)) (decide (b < a)) := CmpT.ofI fun q => gt_int q
theorem CmpT.geI : CmpT .GtE (.d (.int a)) (.d (.int b)) (decide (b ≤ a)) := CmpT.ofI fun q => PyProof.Rows.ge_int q
theorem CmpT.ofS {op : CmpOp} {r : Bool} (h : ∀ {w : World} {A : Around} {s : Shared} {Q E : Value → Shared → Prop} {t u : Tok}, Q (.bool r) s → wpAny (model PySem.Challenge.pw_kq0058_01 w) A (compareOp op (.str x t) (.str y u)) Q E s) : CmpT op (.d (.str x)) (.d (.str y)) r := by
  constructor
  intro c env Γ xt mu fz m mm s Q E va vb _ _ ha hb q
  cases ha with | str _ t => cases hb with | str _ u => exact h q
theorem CmpT.eqS : CmpT .Eq (.d (.str x)) (.d (.str y)) (x.cps.toList == y.cps.toList) := CmpT.ofS fun q => P.eq_str q
theorem CmpT.neS : CmpT .NotEq (.d (.str x)) (.d (.str y)) (x.cps.toList != y.cps.toList) := CmpT.ofS fun q => P.ne_str q
theorem CmpT.isNone : CmpT .Is (.d .none) (.d .none) true := by
  constructor
  intro c env Γ xt mu fz m mm s Q E va vb _ _ ha hb q
  cases ha; cases hb
  show wpAny _ _ (do return .bool (← isSame .none .none)) Q E s
  exact wpAny_bind (wpAny_isSame_plain rfl (wpAny_pure q))
theorem CmpT.isStr : CmpT .Is (.d (.str x)) (.d .none) false := by
  constructor
  intro c env Γ xt mu fz m mm s Q E va vb _ _ ha hb q
  cases ha with | str _ t => cases hb; exact is_str_none q
theorem CmpT.isNotNone : CmpT .IsNot (.d .none) (.d .none) false := by
  constructor
  intro c env Γ xt mu fz m mm s Q E va vb _ _ ha hb q
  cases ha; cases hb
  show wpAny _ _ (do return .bool (!(← isSame .none .none))) Q E s
  exact wpAny_bind (wpAny_isSame_plain rfl (wpAny_pure q))
theorem CmpT.isNotStr : CmpT .IsNot (.d (.str x)) (.d .none) true := by
  constructor
  intro c env Γ xt mu fz m mm s Q E va vb _ _ ha hb q
  cases ha with | str _ t =>
    cases hb
    show wpAny _ _ (do return .bool (!(← isSame (.str x t) .none))) Q E s
    exact wpAny_bind (wpAny_isSame_plain rfl (wpAny_pure q))
end
end Mine
end
section
open PySem PySem.W PySem.W.X PyProof.Rows PySem.Builtin.Str
set_option maxRecDepth 100000
set_option Elab.async false
namespace Mine
theorem DatAll.drop {fz : Led} : ∀ {vs : List Value} {ds : List Dat} (n : Nat), DatAll fz vs ds → DatAll fz (vs.drop n) (ds.drop n)
  | _, _, 0, h => h
  | [], _, _ + 1, h => by cases h; exact .nil
  | _ :: _, _, n + 1, h => by cases h with | cons _ r => exact DatAll.drop n r
theorem DatIn.strE {fz : Led} {v : Value} {x : Str} (h : Rv.Is mu fz (.d (.str x)) v) : ∃ t, v = .str x t := by cases h; exact ⟨_, rfl⟩
theorem DatIn.intE {fz : Led} {v : Value} {i : Int} (h : Rv.Is mu fz (.d (.int i)) v) : ∃ t, v = .int i t := by cases h; exact ⟨_, rfl⟩
theorem DatIn.bytesE {fz : Led} {v : Value} {b : Array UInt8} (h : Rv.Is mu fz (.d (.bytes b)) v) : ∃ t, v = .bytes b t := by cases h; exact ⟨_, rfl⟩
theorem DatIn.boolE {fz : Led} {v : Value} {b : Bool} (h : Rv.Is mu fz (.d (.bool b)) v) : v = .bool b := by cases h; rfl
theorem DatIn.listE {fz : Led} {v : Value} {ds : List Dat} (h : Rv.Is mu fz (.d (.list ds)) v) : ∃ a vs n, v = .ref a ∧ (a, lstO (List.toArray vs) n) ∈ fz ∧ DatAll fz vs ds := by cases h with | list hm ha => exact ⟨_, _, _, rfl, hm, ha⟩
theorem DatIn.tup2E {a b : Dat} {fz : Led} {v : Value} (h : Rv.Is mu fz (.d (.tuple [a, b])) v) : ∃ T x y n, v = .ref T ∧ (T, ({ cls := .type "tuple", data := .seq #[x, y] n } : Obj)) ∈ fz ∧ DatIn fz x a ∧ DatIn fz y b := by
  cases h with
  | tuple hm ha =>
    cases ha with
    | cons a1 ha => cases ha with
      | cons a2 ha =>
        cases ha
        exact ⟨_, _, _, _, rfl, hm, a1, a2⟩
noncomputable abbrev nmV : Expr := .Name (Str.ofString "_") ⟨0, 0, 0, 0⟩
section
variable {c : Fc} {env : Env} {Γ : Gm} {pos p2 : Pos} {value lo up ix : Expr}
theorem EvT.sliceSN {x : Str} {i : Int} (hv : EvT c env Γ value (.d (.str x))) (hi : EvT c env Γ lo (.d (.int i))) (hz : x.length ≤ 1000000) :
    EvT c env Γ (.Subscript value (.Slice (some lo) none none p2) pos) (.d (.str (Txt.slice x (some i) none))) := by
  refine ⟨fun xt mu fz m mm s Q E S q => ?_⟩
  refine Subscript_ (hv.run xt mu fz m mm s _ E S fun va f1 h1 k1 s1 S1 v1 => ?_)
  obtain ⟨t, rfl⟩ := DatIn.strE v1
  refine wpAny_Slice (evalPart_some_step (hi.run xt mu f1 m mm _ _ E S1 fun vi f2 h2 k2 s2 S2 v2 => ?_))
  obtain ⟨u, rfl⟩ := DatIn.intE v2
  obtain ⟨tb, T, N⟩ := S2.N
  exact evalPart_none_step (evalPart_none_step (kba_turn (value' := nmV) (fun _ => rfl) (slice_strN_sn_len (s := { s with heap := h2, toks := k2 }) S2.F N (fun h' t' k F' N' _ => q _ f2 h' k (fun p hp => s2 p (s1 p hp)) (S2.move F' ⟨tb, T, N'⟩) (.str _ _)) (by with_unfolding_all rfl) (fun _ => rfl) (by rw [sizeLine_eq]; lia))))
theorem EvT.sliceSS {x : Str} {i j : Int} (hv : EvT c env Γ value (.d (.str x))) (hi : EvT c env Γ lo (.d (.int i))) (hj : EvT c env Γ up (.d (.int j))) (hz : x.length ≤ 1000000) :
    EvT c env Γ (.Subscript value (.Slice (some lo) (some up) none p2) pos) (.d (.str (Txt.slice x (some i) (some j)))) := by
  refine ⟨fun xt mu fz m mm s Q E S q => ?_⟩
  refine Subscript_ (hv.run xt mu fz m mm s _ E S fun va f1 h1 k1 s1 S1 v1 => ?_)
  obtain ⟨t, rfl⟩ := DatIn.strE v1
  refine wpAny_Slice (evalPart_some_step (hi.run xt mu f1 m mm _ _ E S1 fun vi f2 h2 k2 s2 S2 v2 => ?_))
  obtain ⟨u, rfl⟩ := DatIn.intE v2
  refine evalPart_some_step (hj.run xt mu f2 m mm _ _ E S2 fun vj f3 h3 k3 s3 S3 v3 => ?_)
  obtain ⟨u3, rfl⟩ := DatIn.intE v3
  obtain ⟨tb, T, N⟩ := S3.N
  exact evalPart_none_step (kba_turn (value' := nmV) (fun _ => rfl) (slice_strN_ss_len (s := { s with heap := h3, toks := k3 }) S3.F N (fun h' t' k F' N' _ => q _ f3 h' k (fun p hp => s3 p (s2 p (s1 p hp))) (S3.move F' ⟨tb, T, N'⟩) (.str _ _)) (by with_unfolding_all rfl) (fun _ => rfl) (by rw [sizeLine_eq]; lia)))
theorem EvT.sliceNS {x : Str} {j : Int} (hv : EvT c env Γ value (.d (.str x))) (hj : EvT c env Γ up (.d (.int j))) (hz : x.length ≤ 1000000) :
    EvT c env Γ (.Subscript value (.Slice none (some up) none p2) pos) (.d (.str (Txt.slice x none (some j)))) := by
  refine ⟨fun xt mu fz m mm s Q E S q => ?_⟩
  refine Subscript_ (hv.run xt mu fz m mm s _ E S fun va f1 h1 k1 s1 S1 v1 => ?_)
  obtain ⟨t, rfl⟩ := DatIn.strE v1
  refine wpAny_Slice (evalPart_none_step (evalPart_some_step (hj.run xt mu f1 m mm _ _ E S1 fun vj f2 h2 k2 s2 S2 v2 => ?_)))
  obtain ⟨u, rfl⟩ := DatIn.intE v2
  obtain ⟨tb, T, N⟩ := S2.N
  exact evalPart_none_step (kba_turn (value' := nmV) (fun _ => rfl) (slice_strN_ns_len (s := { s with heap := h2, toks := k2 }) S2.F N (fun h' t' k F' N' _ => q _ f2 h' k (fun p hp => s2 p (s1 p hp)) (S2.move F' ⟨tb, T, N'⟩) (.str _ _)) (by with_unfolding_all rfl) (fun _ => rfl) (by rw [sizeLine_eq]; lia)))
theorem EvT.itemS {x : Str} {i : Int} (hv : EvT c env Γ value (.d (.str x))) (hi : EvT c env Γ ix (.d (.int i))) (h1 : fitsSsize i = true) (h2 : -(x.length : Int) ≤ i) (h3 : i < x.length)
    (hs : ∀ t u, subscripted ix false (.str x t) (.int i u) = operate [.str x t, .int i u] (getItem (.str x t) (.int i u)) := by intros; with_unfolding_all rfl) : EvT c env Γ (.Subscript value ix pos) (.d (.str (Txt.item x i))) := by
  refine ⟨fun xt mu fz m mm s Q E S q => ?_⟩
  refine Subscript_ (hv.run xt mu fz m mm s _ E S fun va f1 e1 k1 s1 S1 v1 => hi.run xt mu f1 m mm _ _ E S1 fun vi f2 e2 k2 s2 S2 v2 => ?_)
  obtain ⟨t, rfl⟩ := DatIn.strE v1
  obtain ⟨u, rfl⟩ := DatIn.intE v2
  exact kba_turn (value' := nmV) (fun _ => rfl) (item_str h1 h2 h3 (fun _ => q _ f2 e2 _ (fun p hp => s2 p (s1 p hp)) S2 (.str _ _)) (hs _ _) (fun _ => rfl))
theorem EvT.itemL {ds : List Dat} {i : Int} {d : Dat} (hv : EvT c env Γ value (.d (.list ds))) (hi : EvT c env Γ ix (.d (.int i))) (h0 : 0 ≤ i) (h1 : i < 2 ^ 63) (hd : ds[i.toNat]? = some d)
    (hs : ∀ a u, subscripted ix false (.ref a) (.int i u) = operate [.ref a, .int i u] (getItem (.ref a) (.int i u)) := by intros; with_unfolding_all rfl) : EvT c env Γ (.Subscript value ix pos) (.d d) := by
  refine ⟨fun xt mu fz m mm s Q E S q => ?_⟩
  refine Subscript_ (hv.run xt mu fz m mm s _ E S fun va f1 e1 k1 s1 S1 v1 => hi.run xt mu f1 m mm _ _ E S1 fun vi f2 e2 k2 s2 S2 v2 => ?_)
  obtain ⟨u, rfl⟩ := DatIn.intE v2
  cases (DatIn.mono s2 v1) with
  | list hm ha =>
    obtain ⟨hl, rfl⟩ := List.getElem?_eq_some_iff.mp hd
    obtain ⟨v, g1, g2⟩ := ha.get hl
    obtain ⟨tb, T, N⟩ := S2.N
    exact kba_turn (value' := nmV) (fun _ => rfl) (kim_list (s := { s with heap := e2, toks := k2 }) N (List.mem_append_right _ (List.mem_append_right _ (List.mem_append_right _ hm))) rfl rfl h0 h1 g1 (q _ f2 e2 k2 (fun p hp => s2 p (s1 p hp)) S2 g2) (hs _ _) (fun _ => rfl))
theorem EvT.itemB {b : Array UInt8} {ks : List Int} {i : Int} (hv : EvT c env Γ value (.d (.bytes b))) (hi : EvT c env Γ ix (.d (.int i))) (hk : KBw.bInts b = ks) (hz : ks.length ≤ 1000000) (h0 : 0 ≤ i) (h1 : i < ks.length)
    (hs : ∀ t u, subscripted ix false (.bytes b t) (.int i u) = operate [.bytes b t, .int i u] (getItem (.bytes b t) (.int i u)) := by intros; with_unfolding_all rfl) : EvT c env Γ (.Subscript value ix pos) (.d (.int (ks.getD i.toNat 0))) := by
  refine ⟨fun xt mu fz m mm s Q E S q => ?_⟩
  refine Subscript_ (hv.run xt mu fz m mm s _ E S fun va f1 e1 k1 s1 S1 v1 => hi.run xt mu f1 m mm _ _ E S1 fun vi f2 e2 k2 s2 S2 v2 => ?_)
  obtain ⟨u, rfl⟩ := DatIn.intE v2
  obtain ⟨t, rfl⟩ := DatIn.bytesE v1
  exact kba_turn (value' := nmV) (fun _ => rfl) (KBw.item_K hk (by lia) h0 h1 (fun t' k _ _ => q _ f2 e2 k (fun p hp => s2 p (s1 p hp)) S2 (.int _ _)) (hs _ _) (fun _ => rfl))
theorem EvT.sliceLN {ds : List Dat} {i : Int} (hv : EvT c env Γ value (.d (.list ds))) (hi : EvT c env Γ lo (.d (.int i))) (hz : ds.length ≤ 1000000) (h0 : 0 ≤ i) (hp : ∀ zs : List Value, kms_pick zs (some i) none = zs.drop i.toNat) :
    EvT c env Γ (.Subscript value (.Slice (some lo) none none p2) pos) (.d (.list (ds.drop i.toNat))) := by
  refine ⟨fun xt mu fz m mm s Q E S q => ?_⟩
  refine Subscript_ (hv.run xt mu fz m mm s _ E S fun va f1 h1 k1 s1 S1 v1 => ?_)
  obtain ⟨_, _, _, rfl, hm, ha⟩ := DatIn.listE v1
  refine wpAny_Slice (evalPart_some_step (hi.run xt mu f1 m mm _ _ E S1 fun vi f2 h2 k2 s2 S2 v2 => ?_))
  obtain ⟨u, rfl⟩ := DatIn.intE v2
  obtain ⟨tb, T, N⟩ := S2.N
  have hm2 := s2 _ hm
  refine evalPart_none_step (evalPart_none_step (kba_turn (value' := nmV) (fun _ => rfl) (kms_slice_lit (s := { s with heap := h2, toks := k2 }) S2.F N ⟨_, (S2.get (.inr (.inr hm2))).1, rfl, _, rfl⟩ (.int _ _) .none (hp _) (fun D h' F' N' l => ?_) (by with_unfolding_all rfl) (fun _ => rfl) ?_)))
  · refine q _ _ h' _ (fun p hp => .tail _ (s2 p (s1 p hp))) (S2.alloc T F' N' l) (.list (.head _) ?_)
    exact DatAll.mono (fun p hp => .tail _ (s2 p hp)) (DatAll.drop _ ha)
  · rw [List.size_toArray, ha.length, sizeLine_eq]; lia
end
end Mine
end
section
open PySem PySem.W PySem.W.X PyProof.Rows PySem.Builtin.Str
set_option maxRecDepth 100000
set_option Elab.async false
namespace Mine
inductive RAll (mu fz : Led) : List Rv → List Value → Prop
  | nil : RAll mu fz [] []
  | cons {r : Rv} {v : Value} {rs : List Rv} {vs : List Value} : r.Is mu fz v → RAll mu fz rs vs → RAll mu fz (r :: rs) (v :: vs)
theorem RAll.mono {mu fz fz' : Led} (hs : ∀ p ∈ fz, p ∈ fz') {rs : List Rv} {vs : List Value} (h : RAll mu fz rs vs) : RAll mu fz' rs vs := by
  induction h with
  | nil => exact .nil
  | cons a _ ih => exact .cons (a.mono hs) ih
theorem RAll.dats {mu fz : Led} : ∀ {ds : List Dat} {vs : List Value}, RAll mu fz (ds.map .d) vs → DatAll fz vs ds
  | [], _, h => by cases h; exact .nil
  | _ :: _, _, h => by cases h with | cons a b => exact .cons a b.dats
theorem RAll.inv1 {mu fz : Led} {r : Rv} {vs : List Value} (h : RAll mu fz [r] vs) : ∃ v, vs = [v] ∧ r.Is mu fz v := by cases h with | cons a b => cases b; exact ⟨_, rfl, a⟩
theorem RAll.invC {mu fz : Led} {r : Rv} {rs : List Rv} {vs : List Value} (h : RAll mu fz (r :: rs) vs) : ∃ v ws, vs = v :: ws ∧ r.Is mu fz v ∧ RAll mu fz rs ws := by cases h with | cons a b => exact ⟨_, _, rfl, a, b⟩
theorem RAll.inv2 {mu fz : Led} {r r2 : Rv} {vs : List Value} (h : RAll mu fz [r, r2] vs) : ∃ v v2, vs = [v, v2] ∧ r.Is mu fz v ∧ r2.Is mu fz v2 := by
  obtain ⟨v, ws, rfl, a, h⟩ := h.invC
  obtain ⟨w, rfl, b⟩ := h.inv1
  exact ⟨v, w, rfl, a, b⟩
theorem RAll.inv3 {mu fz : Led} {r r2 r3 : Rv} {vs : List Value} (h : RAll mu fz [r, r2, r3] vs) : ∃ v v2 v3, vs = [v, v2, v3] ∧ r.Is mu fz v ∧ r2.Is mu fz v2 ∧ r3.Is mu fz v3 := by
  obtain ⟨v, ws, rfl, a, h⟩ := h.invC
  obtain ⟨w, x, rfl, b, d⟩ := h.inv2
  exact ⟨v, w, x, rfl, a, b, d⟩
noncomputable def plainE : Expr → Bool
  | .Starred .. => false
  | _ => true
theorem star1 {e : Expr} {es : List Expr} {env : Env} (h : plainE e = true) : starEach (e :: es) env = (false, eval e env) :: starEach es env := by
  cases e <;> first | rfl | cases h
theorem star0 {env : Env} {pos : Pos} : ∀ {es : List Expr}, es.all plainE = true → (backTo pos (starEach es env)).any (·.1) = false
  | [], _ => rfl
  | e :: es, h => by
    rw [List.all_cons, Bool.and_eq_true] at h
    rw [star1 h.1]
    exact star0 h.2
theorem callN {x : Str} {p pos : Pos} {args : List Expr} {env : Env} : eval (.Call (.Name x p) args [] pos) env = (do callWith pos (← eval (.Name x p) env) [] (backTo pos (starEach args env)) (backToKw pos (keywordEach [] env))) := rfl
structure EvTs (c : Fc) (env : Env) (Γ : Gm) (es : List Expr) (rs : List Rv) : Prop where
  run : ∀ xt mu fz m mm pos (s : Shared) (Q : List Value → Shared → Prop) (E : Value → Shared → Prop), Es c env Γ xt mu fz m mm s.heap →
    (∀ vs fz' h' tk, (∀ p ∈ fz, p ∈ fz') → Es c env Γ xt mu fz' m mm h' → RAll mu fz' rs vs → Q vs { s with heap := h', toks := tk }) → wpAny c.M c.A (spliced (backTo pos (starEach es env))) Q E s
section
variable {c : Fc} {env : Env} {Γ : Gm} {pos p2 : Pos} {e f : Expr} {es : List Expr} {r : Rv} {rs : List Rv}
theorem EvTs.nil : EvTs c env Γ [] [] := ⟨fun xt mu fz m mm pos s Q E S q => args_nil (q [] fz s.heap s.toks (fun _ h => h) S .nil)⟩
theorem EvTs.cons (h : EvT c env Γ e r) (t : EvTs c env Γ es rs) (he : plainE e = true := by rfl) : EvTs c env Γ (e :: es) (r :: rs) := ⟨fun xt mu fz m mm pos s Q E S q =>
  args_cons (h.run xt mu fz m mm s _ E S fun v f1 h1 k1 s1 S1 v1 => t.run xt mu f1 m mm pos _ _ E S1 fun vs f2 h2 k2 s2 S2 v2 => q (v :: vs) f2 h2 k2 (fun p hp => s2 p (s1 p hp)) S2 (.cons (v1.mono s2) v2)) (star1 he)⟩
theorem EvT.tup {ds : List Dat} {k : Nat} (h : EvTs c env Γ es (ds.map .d)) (hz : ds.length ≤ 1000) : EvT c env Γ (.Tuple es k pos) (.d (.tuple ds)) := by
  refine ⟨fun xt mu fz m mm s Q E S q => ?_⟩
  refine Tuple_ (h.run xt mu fz m mm pos s _ E S fun vs f1 h1 k1 s1 S1 v1 => ?_)
  obtain ⟨tb, T, N⟩ := S1.N
  refine kup_newTuple (s := { s with heap := h1, toks := k1 }) S1.F N (fun D h' F' N' l => ?_) (by rw [v1.dats.length, sizeLine_eq]; lia)
  exact q _ _ h' k1 (fun p hp => .tail _ (s1 p hp)) (S1.alloc T F' N' l) (.tuple (.head _) (DatAll.mono (fun p hp => .tail _ hp) v1.dats))
theorem EvT.lst {ds : List Dat} (h : EvTs c env Γ es (ds.map .d)) (hz : ds.length ≤ 1000) : EvT c env Γ (.List es pos) (.d (.list ds)) := by
  refine ⟨fun xt mu fz m mm s Q E S q => ?_⟩
  refine List_ (h.run xt mu fz m mm pos s _ E S fun vs f1 h1 k1 s1 S1 v1 => ?_)
  obtain ⟨tb, T, N⟩ := S1.N
  refine newList_K (s := { s with heap := h1, toks := k1 }) S1.F N (fun D h' F' N' l => ?_) (by rw [v1.dats.length, sizeLine_eq]; lia)
  exact q _ _ h' k1 (fun p hp => .tail _ (s1 p hp)) (S1.alloc T F' N' l) (.list (.head _) (DatAll.mono (fun p hp => .tail _ hp) v1.dats))
end
noncomputable def Rv.tr : Rv → Option Bool
  | .d .none => some false
  | .d (.bool b) => some b
  | .d (.int i) => some (i != 0)
  | .d (.str x) => some (x.length != 0)
  | .d (.list l) => some (!l.isEmpty)
  | .ownE _ l => some (!l.isEmpty)
  | _ => none
noncomputable def Rv.sz : Rv → Nat
  | .d (.str x) => x.length
  | .d (.list l) => l.length
  | .ownE _ l => l.length
  | _ => 0
theorem truthy_lst {c : Fc} {a : Addr} {vs : List Value} {n : Nat} {s : Shared} {Q : Bool → Shared → Prop} {E : Value → Shared → Prop} {k : Nat} (g : s.heap.get? a = some (lstO (List.toArray vs) n)) (hl : vs.length = k) (hk : k ≤ 1000000) (q : ∀ tk, Q (!(k == 0)) { s with toks := tk }) : wpAny c.M c.A (truthy (.ref a)) Q E s := by
  refine wpAny_truthy_list (items := List.toArray vs) ⟨_, g, rfl, n, rfl⟩ (by rw [List.size_toArray]; lia) ?_
  have e : (List.toArray vs).isEmpty = (k == 0) := by rw [← hl]; cases vs <;> rfl
  rw [e]; exact q _
theorem isEmpty_len {α : Type} (l : List α) : l.isEmpty = (l.length == 0) := by cases l <;> rfl
theorem Rv.truthy {c : Fc} {env : Env} {Γ : Gm} {xt mu fz : Led} {m mm : Str → Option Value} {s : Shared} {Q : Bool → Shared → Prop} {E : Value → Shared → Prop} {r : Rv} {b : Bool} {v : Value} (S : Es c env Γ xt mu fz m mm s.heap) (hv : r.Is mu fz v) (h : r.tr = some b)
    (hz : r.sz ≤ 1000000) (q : ∀ tk, Q b { s with toks := tk }) : wpAny c.M c.A (PySem.truthy v) Q E s := by
  cases r with
  | d x =>
    cases hv with
    | none => cases h; exact PyProof.Rows.truthy_none (q s.toks)
    | bool b => cases h; exact wpAny_pure (a := _) (q s.toks)
    | int i t => cases h; exact P.truthy_int (q s.toks)
    | str x t =>
      cases h
      refine PySem.P.truthy_str (by have : x.length ≤ 1000000 := hz; lia) ?_
      have e : ((x.length : Int) != 0) = (x.length != 0) := by rw [Bool.eq_iff_iff]; simp
      rw [e]; exact q _
    | bytes => cases h
    | tuple => cases h
    | list hm ha =>
      cases h
      exact truthy_lst (S.get (.inr (.inr hm))).1 ha.length hz (by rw [← isEmpty_len]; exact q)
  | ownE ad l =>
    cases h
    obtain ⟨a, vs, n, rfl, _, hm, ha⟩ := hv
    exact truthy_lst (S.get (.inr (.inl hm))).1 ha.length hz (by rw [← isEmpty_len]; exact q)
  | _ => cases h
structure TsT (c : Fc) (env : Env) (Γ : Gm) (e : Expr) (b : Bool) : Prop where
  run : ∀ xt mu fz m mm (s : Shared) (Q : Bool → Shared → Prop) (E : Value → Shared → Prop), Es c env Γ xt mu fz m mm s.heap →
    (∀ fz' h' tk, (∀ p ∈ fz, p ∈ fz') → Es c env Γ xt mu fz' m mm h' → Q b { s with heap := h', toks := tk }) → wpAny c.M c.A (isTrue e env (eval e env)) Q E s
structure TsW (c : Fc) (env : Env) (Γ : Gm) (e : Expr) (b : Bool) : Prop where
  run : ∀ xt mu fz m mm whole (s : Shared) (Q : Bool → Shared → Prop) (E : Value → Shared → Prop), Es c env Γ xt mu fz m mm s.heap →
    (∀ fz' h' tk, (∀ p ∈ fz, p ∈ fz') → Es c env Γ xt mu fz' m mm h' → Q b { s with heap := h', toks := tk }) → wpAny c.M c.A (isTrue e env whole) Q E s
section
variable {c : Fc} {env : Env} {Γ : Gm} {pos p2 : Pos} {e f : Expr} {es : List Expr} {r x y : Rv} {b : Bool} {op : CmpOp}
theorem TsW.t (h : TsW c env Γ e b) : TsT c env Γ e b := ⟨fun xt mu fz m mm s Q E S q => h.run xt mu fz m mm _ s Q E S q⟩
theorem TsT.plain (h : EvT c env Γ e r) (ht : r.tr = some b) (hz : r.sz ≤ 1000000)
    (he : ∀ whole, isTrue e env whole = (do let v ← whole; standAt e.pos; holding [v] (PySem.truthy v)) := by intro _; rfl) : TsT c env Γ e b := ⟨fun xt mu fz m mm s Q E S q =>
  isTrue_plain (h.run xt mu fz m mm s _ E S fun v f1 h1 k1 s1 S1 v1 => Rv.truthy S1 v1 ht hz fun tk => q f1 h1 tk s1 S1) (he _)⟩
theorem TsW.not (h : TsT c env Γ e b) : TsW c env Γ (.UnaryOp .Not e pos) (!b) := ⟨fun xt mu fz m mm whole s Q E S q => isTrue_not (h.run xt mu fz m mm s _ E S q)⟩
theorem TsW.cmp (hu : c.un + 64 < cLine) (ha : EvT c env Γ e x) (hb : EvT c env Γ f y) (h : CmpT op x y b) (hm : behindInMarks op f = false := by with_unfolding_all rfl) : TsW c env Γ (.Compare e [op] [f] pos) b := ⟨fun xt mu fz m mm whole s Q E S q =>
  wpAny_isTrue_Compare1 (ha.run xt mu fz m mm s _ E S fun va f1 h1 k1 s1 S1 v1 => hb.run xt mu f1 m mm _ _ E S1 fun vb f2 h2 k2 s2 S2 v2 => h.run hu S2 (v1.mono s2) v2 (wpAny_pure (a := _) (q f2 h2 k2 (fun p hp => s2 p (s1 p hp)) S2))) hm⟩
theorem TsW.andN : TsW c env Γ (.BoolOp .And [] pos) true := ⟨fun xt mu fz m mm whole s Q E S q => isTrue_and_nil (q fz s.heap s.toks (fun _ h => h) S)⟩
theorem TsW.orN : TsW c env Γ (.BoolOp .Or [] pos) false := ⟨fun xt mu fz m mm whole s Q E S q => isTrue_or_nil (q fz s.heap s.toks (fun _ h => h) S)⟩
theorem TsW.andF (h : TsT c env Γ e false) : TsW c env Γ (.BoolOp .And (e :: es) pos) false := ⟨fun xt mu fz m mm whole s Q E S q => isTrue_and (h.run xt mu fz m mm s _ E S fun f1 h1 k1 s1 S1 => by rw [if_neg Bool.false_ne_true]; exact q f1 h1 k1 s1 S1)⟩
theorem TsW.andT (h : TsT c env Γ e true) (t : TsW c env Γ (.BoolOp .And es pos) b) : TsW c env Γ (.BoolOp .And (e :: es) pos) b := ⟨fun xt mu fz m mm whole s Q E S q => isTrue_and (h.run xt mu fz m mm s _ E S fun f1 h1 k1 s1 S1 => by
  rw [if_pos rfl]; exact t.run xt mu f1 m mm whole _ Q E S1 fun f2 h2 k2 s2 S2 => q f2 h2 k2 (fun p hp => s2 p (s1 p hp)) S2)⟩
theorem TsW.orT (h : TsT c env Γ e true) : TsW c env Γ (.BoolOp .Or (e :: es) pos) true := ⟨fun xt mu fz m mm whole s Q E S q => isTrue_or (h.run xt mu fz m mm s _ E S fun f1 h1 k1 s1 S1 => by rw [if_pos rfl]; exact q f1 h1 k1 s1 S1)⟩
theorem TsW.orF (h : TsT c env Γ e false) (t : TsW c env Γ (.BoolOp .Or es pos) b) : TsW c env Γ (.BoolOp .Or (e :: es) pos) b := ⟨fun xt mu fz m mm whole s Q E S q => isTrue_or (h.run xt mu fz m mm s _ E S fun f1 h1 k1 s1 S1 => by
  rw [if_neg Bool.false_ne_true]; exact t.run xt mu f1 m mm whole _ Q E S1 fun f2 h2 k2 s2 S2 => q f2 h2 k2 (fun p hp => s2 p (s1 p hp)) S2)⟩
theorem EvT.ifT {g : Expr} (h : TsT c env Γ e true) (hb : EvT c env Γ f r) : EvT c env Γ (.IfExp e f g pos) r := ⟨fun xt mu fz m mm s Q E S q => IfExp_ (h.run xt mu fz m mm s _ E S fun f1 h1 k1 s1 S1 => by
  rw [if_pos rfl]; exact hb.run xt mu f1 m mm _ Q E S1 fun v f2 h2 k2 s2 S2 => q v f2 h2 k2 (fun p hp => s2 p (s1 p hp)) S2)⟩
theorem EvT.ifF {g : Expr} (h : TsT c env Γ e false) (hb : EvT c env Γ g r) : EvT c env Γ (.IfExp e f g pos) r := ⟨fun xt mu fz m mm s Q E S q => IfExp_ (h.run xt mu fz m mm s _ E S fun f1 h1 k1 s1 S1 => by
  rw [if_neg Bool.false_ne_true]; exact hb.run xt mu f1 m mm _ Q E S1 fun v f2 h2 k2 s2 S2 => q v f2 h2 k2 (fun p hp => s2 p (s1 p hp)) S2)⟩
theorem EvT.orT (h : EvT c env Γ e r) (ht : r.tr = some true) (hz : r.sz ≤ 1000000) : EvT c env Γ (.BoolOp .Or (e :: f :: es) pos) r := ⟨fun xt mu fz m mm s Q E S q =>
  BoolOp_or (h.run xt mu fz m mm s _ E S fun v f1 h1 k1 s1 S1 v1 => Rv.truthy S1 v1 ht hz fun tk => by rw [if_pos rfl]; exact q v f1 h1 tk s1 S1 v1)⟩
theorem EvT.andT (h : EvT c env Γ e x) (ht : x.tr = some true) (hz : x.sz ≤ 1000000) (hr : EvT c env Γ (.BoolOp .And (f :: es) pos) r) : EvT c env Γ (.BoolOp .And (e :: f :: es) pos) r := ⟨fun xt mu fz m mm s Q E S q =>
  BoolOp_and (h.run xt mu fz m mm s _ E S fun v f1 h1 k1 s1 S1 v1 => Rv.truthy S1 v1 ht hz fun tk => by rw [if_pos rfl]; exact hr.run xt mu f1 m mm _ Q E S1 fun v f2 h2 k2 s2 S2 => q v f2 h2 k2 (fun p hp => s2 p (s1 p hp)) S2)⟩
theorem EvT.andF (h : EvT c env Γ e r) (ht : r.tr = some false) (hz : r.sz ≤ 1000000) : EvT c env Γ (.BoolOp .And (e :: f :: es) pos) r := ⟨fun xt mu fz m mm s Q E S q =>
  BoolOp_and (h.run xt mu fz m mm s _ E S fun v f1 h1 k1 s1 S1 v1 => Rv.truthy S1 v1 ht hz fun tk => by rw [if_neg Bool.false_ne_true]; exact q v f1 h1 tk s1 S1 v1)⟩
theorem EvT.boolOne {bo : BoolOp} (h : EvT c env Γ e r) : EvT c env Γ (.BoolOp bo [e] pos) r := ⟨fun xt mu fz m mm s Q E S q => BoolOp_one (h.run xt mu fz m mm s Q E S q)⟩
end
end Mine
end
section
open PySem PySem.W PySem.W.X PyProof.Rows PySem.Builtin.Str
set_option maxRecDepth 100000
set_option Elab.async false
namespace Mine
structure CallT (d u : Nat) (f : Value) (as : List Rv) (r : Rv) : Prop where
  run : ∀ {c : Fc} {env : Env} {Γ : Gm} {xt mu fz : Led} {m mm : Str → Option Value} {s : Shared} {Q E : Value → Shared → Prop} {vs : List Value}, c.Ok d u → Es c env Γ xt mu fz m mm s.heap → RAll mu fz as vs →
    (∀ v fz' h' tk, (∀ p ∈ fz, p ∈ fz') → Es c env Γ xt mu fz' m mm h' → r.Is mu fz' v → Q v { s with heap := h', toks := tk }) → wpAny c.M c.A (call f vs) Q E s
structure MethT (x : Rv) (name : Str) (id : String) : Prop where
  run : ∀ {c : Fc} {d u : Nat} {env : Env} {Γ : Gm} {xt mu fz : Led} {m mm : Str → Option Value} {s : Shared} {Q : Value × List Value → Shared → Prop} {E : Value → Shared → Prop} {v : Value} {pl : Sem Bool}, c.Ok d u → Es c env Γ xt mu fz m mm s.heap → x.Is mu fz v → Q (.builtin id, [v]) s → wpAny c.M c.A (getMethod v name pl) Q E s
section
variable {c : Fc} {env : Env} {Γ : Gm} {pos p2 : Pos} {e f o : Expr} {es : List Expr} {r x y : Rv} {rs : List Rv} {d u : Nat}
theorem EvT.callB {fx : Str} {fp : Pos} {id : String} (O : c.Ok d u) (hf : EvT c env Γ (.Name fx fp) (.val (.builtin id))) (ha : EvTs c env Γ (e :: es) rs) (h : CallT d u (.builtin id) rs r)
    (h1 : plainE e = true := by rfl) (h2 : es.all plainE = true := by rfl) : EvT c env Γ (.Call (.Name fx fp) (e :: es) [] pos) r := by
  refine ⟨fun xt mu fz m mm s Q E S q => ?_⟩
  refine Call_ (hf.run xt mu fz m mm s _ E S fun v f1 h1' k1 s1 S1 v1 => ?_) callN
  cases v1
  exact callWith_method1 (first := []) (ha.run xt mu f1 m mm pos _ _ E S1 fun vs f2 h2' k2 s2 S2 v2 => h.run O S2 v2 fun v f3 h3 k3 s3 S3 v3 => q v f3 h3 k3 (fun p hp => s3 p (s2 p (s1 p hp))) S3 v3) (star1 h1) (star0 h2)
theorem EvT.callY {fx : Str} {fp : Pos} {T : String} (O : c.Ok d u) (hf : EvT c env Γ (.Name fx fp) (.val (.type T))) (ha : EvTs c env Γ (e :: es) rs) (h : CallT d u (.type T) rs r)
    (h1 : plainE e = true := by rfl) (h2 : es.all plainE = true := by rfl) : EvT c env Γ (.Call (.Name fx fp) (e :: es) [] pos) r := by
  refine ⟨fun xt mu fz m mm s Q E S q => ?_⟩
  refine Call_ (hf.run xt mu fz m mm s _ E S fun v f1 h1' k1 s1 S1 v1 => ?_) callN
  cases v1
  exact Pv.callWith_type1 (ha.run xt mu f1 m mm pos _ _ E S1 fun vs f2 h2' k2 s2 S2 v2 => h.run O S2 v2 fun v f3 h3 k3 s3 S3 v3 => q v f3 h3 k3 (fun p hp => s3 p (s2 p (s1 p hp))) S3 v3) (star1 h1) (star0 h2)
theorem EvT.callK {fx : Str} {fp : Pos} {a : Addr} (O : c.Ok d u) (hf : EvT c env Γ (.Name fx fp) (.val (.ref a))) (ha : EvTs c env Γ (e :: es) rs) (h : CallT d u (.ref a) rs r) (hk : ∀ P, keepIn (hd.heap_1 P) (.ref a) = true)
    (h1 : plainE e = true := by rfl) (h2 : es.all plainE = true := by rfl) : EvT c env Γ (.Call (.Name fx fp) (e :: es) [] pos) r := by
  refine ⟨fun xt mu fz m mm s Q E S q => ?_⟩
  refine Call_ (hf.run xt mu fz m mm s _ E S fun v f1 h1' k1 s1 S1 v1 => ?_) callN
  cases v1
  exact callWith_K (first := []) (O.X.keeps S1.F.keep) (hk _) (ha.run xt mu f1 m mm pos _ _ E S1 fun vs f2 h2' k2 s2 S2 v2 => ⟨O.X.keeps S2.F.keep, h.run O S2 v2 fun v f3 h3 k3 s3 S3 v3 => q v f3 h3 k3 (fun p hp => s3 p (s2 p (s1 p hp))) S3 v3⟩) (star1 h1) (star0 h2)
theorem EvT.meth {name : Str} {id : String} {ap : Pos} {pl : Sem Bool} (O : c.Ok d u) (ho : EvT c env Γ o x) (hm : MethT x name id) (ha : EvTs c env Γ (e :: es) rs) (h : CallT d u (.builtin id) (x :: rs) r)
    (he : eval (.Call (.Attribute o name ap) (e :: es) [] pos) env = (do
      let ov ← eval o env
      standAt ap.atName
      let (f, first) ← holding [ov] (getMethod ov name pl)
      callWith pos f first (backTo pos (starEach (e :: es) env)) []) := by rfl)
    (h1 : plainE e = true := by rfl) (h2 : es.all plainE = true := by rfl) : EvT c env Γ (.Call (.Attribute o name ap) (e :: es) [] pos) r := by
  refine ⟨fun xt mu fz m mm s Q E S q => ?_⟩
  refine MethodCall_ (ho.run xt mu fz m mm s _ E S fun v f1 h1' k1 s1 S1 v1 => hm.run O S1 v1 ?_) he
  exact callWith_method1 (ha.run xt mu f1 m mm pos _ _ E S1 fun vs f2 h2' k2 s2 S2 v2 => h.run O S2 (.cons (v1.mono s2) v2) fun v f3 h3 k3 s3 S3 v3 => q v f3 h3 k3 (fun p hp => s3 p (s2 p (s1 p hp))) S3 v3) (star1 h1) (star0 h2)
theorem EvT.meth0 {name : Str} {id : String} {ap : Pos} {pl : Sem Bool} (O : c.Ok d u) (ho : EvT c env Γ o x) (hm : MethT x name id) (h : CallT d u (.builtin id) [x] r)
    (he : eval (.Call (.Attribute o name ap) [] [] pos) env = (do
      let ov ← eval o env
      standAt ap.atName
      let (f, first) ← holding [ov] (getMethod ov name pl)
      callWith pos f first (backTo pos (starEach [] env)) []) := by rfl) : EvT c env Γ (.Call (.Attribute o name ap) [] [] pos) r := by
  refine ⟨fun xt mu fz m mm s Q E S q => ?_⟩
  refine MethodCall_ (ho.run xt mu fz m mm s _ E S fun v f1 h1' k1 s1 S1 v1 => hm.run O S1 v1 ?_) he
  exact callWith_method0 (h.run O S1 (.cons v1 .nil) fun v f3 h3 k3 s3 S3 v3 => q v f3 h3 k3 (fun p hp => s3 p (s1 p hp)) S3 v3)
end
inductive Fl2 where
  | next
  | brk
  | cont
  | ret (r : Rv)
noncomputable def Fl2.Is (mu fz : Led) : Fl2 → Flow → Prop
  | .next, f => f = .next
  | .brk, f => f = .brk
  | .cont, f => f = .cont
  | .ret r, f => ∃ v, f = .ret v ∧ r.Is mu fz v
structure ExT (c : Fc) (Γ : Gm) (T : Sem Flow) (Γ' : Gm) (fl : Fl2) : Prop where
  run : ∀ xt mu fz m (s : Shared) (Q : Flow → Shared → Prop) (E : Value → Shared → Prop), Es c c.env Γ xt mu fz m m s.heap →
    (∀ f mu' fz' m' h' tk, (∀ p ∈ fz, p ∈ fz') → Es c c.env Γ' xt mu' fz' m' m' h' → fl.Is mu' fz' f → Q f { s with heap := h', toks := tk }) → wpAny c.M c.A T Q E s
noncomputable abbrev StT (c : Fc) (Γ : Gm) (st : Stmt) (Γ' : Gm) (fl : Fl2) : Prop := ExT c Γ (exec st c.env) Γ' fl
noncomputable abbrev BdT (c : Fc) (Γ : Gm) (b : List Stmt) (Γ' : Gm) (fl : Fl2) : Prop := ExT c Γ (execs b c.env) Γ' fl
noncomputable def put (Γ : Gm) (x : Str) (r : Rv) : Gm := fun y => if y = x then some r else Γ y
section
variable {c : Fc} {Γ Γ₁ Γ₂ : Gm} {pos p2 : Pos} {e f o : Expr} {st : Stmt} {b b2 : List Stmt} {r x y : Rv} {fl : Fl2}
theorem BdT.nil : BdT c Γ [] Γ .next := ⟨fun xt mu fz m s Q E S q => wpAny_execs_nil (q _ mu fz m s.heap s.toks (fun _ h => h) S rfl)⟩
theorem BdT.cons (h : StT c Γ st Γ₁ .next) (t : BdT c Γ₁ b Γ₂ fl) : BdT c Γ (st :: b) Γ₂ fl := ⟨fun xt mu fz m s Q E S q =>
  wpAny_execs_cons (h.run xt mu fz m s _ E S fun f m1 f1 mm1 h1 k1 s1 S1 e1 => by
    cases e1
    exact t.run xt m1 f1 mm1 _ Q E S1 fun g m2 f2 mm2 h2 k2 s2 S2 e2 => q g m2 f2 mm2 h2 k2 (fun p hp => s2 p (s1 p hp)) S2 e2)⟩
theorem BdT.ret (h : StT c Γ st Γ₁ (.ret r)) : BdT c Γ (st :: b) Γ₁ (.ret r) := ⟨fun xt mu fz m s Q E S q =>
  wpAny_execs_cons (h.run xt mu fz m s _ E S fun f m1 f1 mm1 h1 k1 s1 S1 e1 => by
    obtain ⟨v, rfl, hv⟩ := e1
    exact q _ m1 f1 mm1 h1 k1 s1 S1 ⟨v, rfl, hv⟩)⟩
theorem BdT.brk (h : StT c Γ st Γ₁ .brk) : BdT c Γ (st :: b) Γ₁ .brk := ⟨fun xt mu fz m s Q E S q =>
  wpAny_execs_cons (h.run xt mu fz m s _ E S fun f m1 f1 mm1 h1 k1 s1 S1 e1 => by
    cases e1
    exact q _ m1 f1 mm1 h1 k1 s1 S1 rfl)⟩
theorem BdT.cont (h : StT c Γ st Γ₁ .cont) : BdT c Γ (st :: b) Γ₁ .cont := ⟨fun xt mu fz m s Q E S q =>
  wpAny_execs_cons (h.run xt mu fz m s _ E S fun f m1 f1 mm1 h1 k1 s1 S1 e1 => by
    cases e1
    exact q _ m1 f1 mm1 h1 k1 s1 S1 rfl)⟩
theorem StT.ret (h : EvT c c.env Γ e r) : StT c Γ (.Return (some e) pos) Γ (.ret r) := ⟨fun xt mu fz m s Q E S q =>
  wpAny_Return_some (h.run xt mu fz m m s _ E S fun v f1 h1 k1 s1 S1 v1 => q _ mu f1 m h1 k1 s1 S1 ⟨v, rfl, v1⟩)⟩
theorem StT.ifT (h : TsT c c.env Γ e true) (t : BdT c Γ b Γ₁ fl) : StT c Γ (.If e b b2 pos) Γ₁ fl := ⟨fun xt mu fz m s Q E S q =>
  wpAny_If (h.run xt mu fz m m s _ E S fun f1 h1 k1 s1 S1 => by rw [if_pos rfl]; exact t.run xt mu f1 m _ Q E S1 fun g m2 f2 mm2 h2 k2 s2 S2 e2 => q g m2 f2 mm2 h2 k2 (fun p hp => s2 p (s1 p hp)) S2 e2)⟩
theorem StT.ifF (h : TsT c c.env Γ e false) (t : BdT c Γ b2 Γ₁ fl) : StT c Γ (.If e b b2 pos) Γ₁ fl := ⟨fun xt mu fz m s Q E S q =>
  wpAny_If (h.run xt mu fz m m s _ E S fun f1 h1 k1 s1 S1 => by rw [if_neg Bool.false_ne_true]; exact t.run xt mu f1 m _ Q E S1 fun g m2 f2 mm2 h2 k2 s2 S2 e2 => q g m2 f2 mm2 h2 k2 (fun p hp => s2 p (s1 p hp)) S2 e2)⟩
theorem StT.brk : StT c Γ (.Break pos) Γ .brk := ⟨fun xt mu fz m s Q E S q => wpAny_Break (q _ mu fz m s.heap s.toks (fun _ h => h) S rfl)⟩
theorem StT.cont : StT c Γ (.Continue pos) Γ .cont := ⟨fun xt mu fz m s Q E S q => wpAny_Continue (q _ mu fz m s.heap s.toks (fun _ h => h) S rfl)⟩
theorem StT.asrt (h : TsT c c.env Γ e true) : StT c Γ (.Assert e none pos) Γ .next := ⟨fun xt mu fz m s Q E S q =>
  wpAny_Assert_new rfl (h.run xt mu fz m m s _ E S fun f1 h1 k1 s1 S1 => by rw [if_pos rfl]; exact q _ mu f1 m h1 k1 s1 S1 rfl)⟩
end
end Mine
end
section
open PySem PySem.W PySem.W.X PyProof.Rows PySem.Builtin.Str
set_option maxRecDepth 100000
set_option Elab.async false
namespace Mine
noncomputable def Rv.free : Rv → Bool
  | .ownE _ _ => false
  | _ => true
theorem Rv.Is.free {mu mu' fz : Led} {v : Value} : ∀ {r : Rv}, r.free = true → r.Is mu fz v → r.Is mu' fz v
  | .d _, _, h => h
  | .val _, _, h => h
  | .ob _, _, h => h
  | .lsE _, _, h => h
  | .bm _, _, h => h
  | .zp _ _, _, h => h
  | .fn _ _ _, _, h => h
  | .mt .., _, h => h
noncomputable def setA (a : Addr) (o : Obj) (mu : Led) : Led := mu.map fun p => if p.1 = a then (a, o) else p
theorem setA_fst (a : Addr) (o : Obj) (mu : Led) : (setA a o mu).map (·.1) = mu.map (·.1) := by
  unfold setA
  rw [List.map_map]
  refine List.map_congr_left fun p _ => ?_
  show (if p.1 = a then (a, o) else p).1 = p.1
  split
  · rename_i h; exact h.symm
  · rfl
theorem setA_mem {a : Addr} {o : Obj} {mu : Led} {p : Addr × Obj} (h : p ∈ mu) (hp : p.1 ≠ a) : p ∈ setA a o mu := List.mem_map.mpr ⟨p, h, if_neg hp⟩
theorem setA_self {a : Addr} {o o₀ : Obj} {mu : Led} (h : (a, o₀) ∈ mu) : (a, o) ∈ setA a o mu := List.mem_map.mpr ⟨_, h, if_pos rfl⟩
theorem setA_inv {a : Addr} {o : Obj} {mu : Led} {p : Addr × Obj} (h : p ∈ setA a o mu) : (p.1 ≠ a ∧ p ∈ mu) ∨ p = (a, o) := by
  obtain ⟨q, hq, e⟩ := List.mem_map.mp h
  by_cases hqa : q.1 = a
  · rw [if_pos hqa] at e; exact .inr e.symm
  · rw [if_neg hqa] at e; subst e; exact .inl ⟨hqa, hq⟩
theorem Nm.upd {env : Env} {m : Str → Option Value} {mu : Led} {x y : Str} {v w : Value} (hne : y ≠ x) (h : Nm env m mu y w) : Nm env (fun z => if z = x then some v else m z) mu y w := by
  cases h with
  | loc hx hd e => exact .loc hx hd (by rw [if_neg hne]; exact e)
  | cell hx hd hc hm ho => exact .cell hx hd hc hm ho
theorem Nm.down {env : Env} {m : Str → Option Value} {mu : Led} {x y : Str} {v w : Value} (hne : y ≠ x) (h : Nm env (fun z => if z = x then some v else m z) mu y w) : Nm env m mu y w := by
  cases h with
  | loc hx hd e => exact .loc hx hd (by rw [if_neg hne] at e; exact e)
  | cell hx hd hc hm ho => exact .cell hx hd hc hm ho
theorem put_ne {Γ : Gm} {x y : Str} {r : Rv} (h : y ≠ x) : put Γ x r y = Γ y := if_neg h
theorem put_eq {Γ : Gm} {x : Str} {r : Rv} : put Γ x r x = some r := if_pos rfl
section
variable {c : Fc} {Γ Γ₁ : Gm} {xt mu fz : Led} {m : Str → Option Value} {s : Shared} {h h' : Heap}
theorem Es.putL {x : Str} {r : Rv} {v : Value} (S : Es c c.env Γ xt mu fz m m h) (hr : r.free = true) (hv : r.Is mu fz v) (hx : c.env.kindOf x = some .local) (hd : (x == ("__debug__" : Str)) = false)
    (F' : Fr c.g c.L h' (fun y => if y = x then some v else m y)) (N' : ∃ tb, Tb c.q tb ∧ News c.g c.L h' (xt ++ (mu ++ (tb ++ fz)))) : Es c c.env (put Γ x r) xt mu fz (fun y => if y = x then some v else m y) (fun y => if y = x then some v else m y) h' := by
  refine ⟨F', N', S.nd, S.of, S.ot, .inl ⟨rfl, rfl⟩, fun y ry e => ?_, S.ce, fun y z ay az ly lz u ey ez ny nz => ?_⟩
  · by_cases q : y = x
    · subst q
      rw [put_eq] at e; cases e
      exact ⟨v, .loc hx hd (if_pos rfl), hv⟩
    · rw [put_ne q] at e
      obtain ⟨u, h1, h2⟩ := S.lc y ry e
      exact ⟨u, h1.upd q, h2⟩
  · have hyx : y ≠ x := fun q => by subst q; rw [put_eq] at ey; cases ey; cases hr
    have hzx : z ≠ x := fun q => by subst q; rw [put_eq] at ez; cases ez; cases hr
    rw [put_ne hyx] at ey; rw [put_ne hzx] at ez
    exact S.sep y z ay az ly lz u ey ez (ny.down hyx) (nz.down hzx)
theorem Es.setN {a : Addr} {o o' : Obj} (S : Es c c.env Γ xt mu fz m m h) (hm : (a, o) ∈ mu) (hs : Heap.SameBut a h h') (hg : h'.get? a = some o') : Fr c.g c.L h' m ∧ (∃ tb, Tb c.q tb ∧ News c.g c.L h' (xt ++ (setA a o' mu ++ (tb ++ fz)))) ∧
    ((xt ++ setA a o' mu).map (·.1)).Nodup ∧ (∀ p ∈ fz, p.1 ∉ (xt ++ setA a o' mu).map (·.1)) ∧ (∀ p ∈ xt ++ (setA a o' mu ++ fz), p.1 ∉ tabs) := by
  have z := S.get (.inr (.inl hm))
  have emap : (xt ++ setA a o' mu).map (·.1) = (xt ++ mu).map (·.1) := by rw [List.map_append, List.map_append, setA_fst]
  have ham : a ∈ (xt ++ mu).map (·.1) := List.mem_map.mpr ⟨(a, o), List.mem_append_right _ hm, rfl⟩
  refine ⟨S.F.change hs z.2.1 z.2.2, ?_, by rw [emap]; exact S.nd, fun p hp => by rw [emap]; exact S.of p hp, fun p hp => ?_⟩
  · obtain ⟨tb, T, N⟩ := S.N
    refine ⟨tb, T, fun p hp => ?_⟩
    have key : ∀ p ∈ xt ++ (mu ++ (tb ++ fz)), p.1 ≠ a → h'.get? p.1 = some p.2 ∧ p.1 ≠ c.L ∧ c.g.get? p.1 = none := fun p hp ha => ⟨(hs.2 _ ha).trans (N p hp).1, (N p hp).2⟩
    rcases List.mem_append.mp hp with hp | hp
    · refine key p (List.mem_append_left _ hp) fun e => ?_
      have hn := S.nd
      rw [List.map_append, List.nodup_append] at hn
      exact hn.2.2 p.1 (List.mem_map_of_mem hp) a (List.mem_map.mpr ⟨_, hm, rfl⟩) e
    · rcases List.mem_append.mp hp with hp | hp
      · rcases setA_inv hp with ⟨h1, h2⟩ | rfl
        · exact key p (List.mem_append_right _ (List.mem_append_left _ h2)) h1
        · exact ⟨hg, z.2⟩
      · refine key p (List.mem_append_right _ (List.mem_append_right _ hp)) fun e => ?_
        rcases List.mem_append.mp hp with hp | hp
        · obtain ⟨p1, p2, p3, p4, rfl, _⟩ := T
          refine S.ot (a, o) (List.mem_append_right _ (List.mem_append_left _ hm)) (e ▸ ?_)
          simp only [List.mem_cons, List.not_mem_nil, or_false] at hp
          rcases hp with rfl | rfl | rfl | rfl <;> simp [tabs]
        · exact S.of p hp (e ▸ ham)
  · rcases List.mem_append.mp hp with hp | hp
    · exact S.ot p (List.mem_append_left _ hp)
    · rcases List.mem_append.mp hp with hp | hp
      · rcases setA_inv hp with ⟨h1, h2⟩ | rfl
        · exact S.ot p (List.mem_append_right _ (List.mem_append_left _ h2))
        · exact S.ot (a, o) (List.mem_append_right _ (List.mem_append_left _ hm))
      · exact S.ot p (List.mem_append_right _ (List.mem_append_right _ hp))
theorem Es.putC {x : Str} {r : Rv} {v : Value} {a : Addr} {o o' : Obj} {v₀ : Option Value} (S : Es c c.env Γ xt mu fz m m h) (hr : r.free = true) (hv : r.Is mu fz v) (hx : c.env.kindOf x = some .cell) (hd : (x == ("__debug__" : Str)) = false) (hc : c.env.cells.lookup x = some a)
    (hi : ∀ y, c.env.cells.lookup y = some a → y = x) (hm : (a, o) ∈ mu) (ho : o.data = .cell v₀) (hs : Heap.SameBut a h h') (hg : h'.get? a = some o') (ho' : o'.data = .cell (some v)) : Es c c.env (put Γ x r) xt (setA a o' mu) fz m m h' := by
  obtain ⟨F', N', nd, of, ot⟩ := S.setN hm hs hg
  have down : ∀ {y : Str} {u : Value}, y ≠ x → Nm c.env m (setA a o' mu) y u → Nm c.env m mu y u := fun {y u} q n => by
    cases n with
    | loc hx hd e => exact .loc hx hd e
    | cell hx' hd' hc' hm' ho'' =>
      rcases setA_inv hm' with ⟨_, h2⟩ | e
      · exact .cell hx' hd' hc' h2 ho''
      · cases e; exact absurd (hi y hc') q
  refine ⟨F', N', nd, of, ot, .inl ⟨rfl, rfl⟩, fun y ry e => ?_, fun y b h1 h2 => ?_, fun y z ay az ly lz u ey ez ny nz => ?_⟩
  · by_cases q : y = x
    · subst q
      rw [put_eq] at e; cases e
      exact ⟨v, .cell hx hd hc (setA_self hm) ho', hv.free hr⟩
    · rw [put_ne q] at e
      obtain ⟨u, h1, h2⟩ := S.lc y ry e
      refine ⟨u, ?_, ?_⟩
      · cases h1 with
        | loc hx hd e => exact .loc hx hd e
        | cell hx' hd' hc' hm' ho'' => exact .cell hx' hd' hc' (setA_mem hm' fun e => q (hi y (e ▸ hc'))) ho''
      · cases ry with
        | ownE ad l =>
          obtain ⟨b, vs, n, rfl, had, hb, hl⟩ := h2
          refine ⟨b, vs, n, rfl, had, setA_mem hb fun e => ?_, hl⟩
          have e1 := (S.get (.inr (.inl hb))).1
          have e2 := (S.get (.inr (.inl hm))).1
          have e' : b = a := e
          subst e'
          rw [e1] at e2
          have h3 : lstO (List.toArray vs) n = o := Option.some.inj e2
          rw [← h3] at ho
          cases ho
        | _ => exact h2.free rfl
  · obtain ⟨ob, w, h3, h4⟩ := S.ce y b h1 h2
    by_cases q : b = a
    · subst q; exact ⟨o', _, setA_self hm, ho'⟩
    · exact ⟨ob, w, setA_mem h3 q, h4⟩
  · have hyx : y ≠ x := fun q => by subst q; rw [put_eq] at ey; cases ey; cases hr
    have hzx : z ≠ x := fun q => by subst q; rw [put_eq] at ez; cases ez; cases hr
    rw [put_ne hyx] at ey; rw [put_ne hzx] at ez
    exact S.sep y z ay az ly lz u ey ez (down hyx ny) (down hzx nz)
end
section
variable {c : Fc} {Γ Γ₁ : Gm} {pos p2 : Pos} {e f : Expr} {r : Rv} {x : Str}
structure SoT (c : Fc) (Γ : Gm) (x : Str) (r : Rv) : Prop where
  run : ∀ xt mu fz m v (s : Shared) (Q : Unit → Shared → Prop) (E : Value → Shared → Prop), Es c c.env Γ xt mu fz m m s.heap → r.Is mu fz v →
  (∀ mu' m' h' tk, Es c c.env (put Γ x r) xt mu' fz m' m' h' → Q () { s with heap := h', toks := tk }) → wpAny c.M c.A (storeName c.env x v) Q E s
theorem SoT.loc (hk : c.cs.kind = .function) (hr : r.free = true := by rfl) (hx : c.env.kindOf x = some .local := by rfl) (hd : (x == ("__debug__" : Str)) = false := by decide) : SoT c Γ x r := ⟨fun xt mu fz m v s Q E S hv q => by
  obtain ⟨tb, T, N⟩ := S.N
  exact storeX_L S.F N (fun h' F' N' => q mu _ h' _ (S.putL hr hv hx hd F' ⟨tb, T, N'⟩)) hk hx⟩
theorem SoT.cell {a : Addr} (hk : c.cs.kind = .function) (hc : c.env.cells.lookup x = some a) (hi : ∀ y, c.env.cells.lookup y = some a → y = x) (hr : r.free = true := by rfl) (hx : c.env.kindOf x = some .cell := by rfl) (hd : (x == ("__debug__" : Str)) = false := by decide) : SoT c Γ x r := ⟨fun xt mu fz m v s Q E S hv q => by
  obtain ⟨o, v₀, hm, ho⟩ := S.ce x a hx hc
  exact wpAny_storeName_cell hk hx hc ⟨o, (S.get (.inr (.inl hm))).1, ho⟩ fun h' hv' hs => by
    obtain ⟨o', g1, g2⟩ := hv'
    exact q _ m h' _ (S.putC hr hv hx hd hc hi hm ho hs g1 g2)⟩
theorem StT.asg {px : Pos} (h : EvT c c.env Γ e r) (t : SoT c Γ x r) (hs : swapsWith e (some (.Name x px)) pos.line c.env = pure false := by rfl) : StT c Γ (.Assign [.Name x px] e pos) (put Γ x r) .next := ⟨fun xt mu fz m s Q E S q =>
  wpAny_Assign_Name (h.run xt mu fz m m s _ E S fun v f1 h1 k1 s1 S1 v1 => t.run xt mu f1 m v _ _ E S1 v1 fun mu' m' h' tk S2 => q _ mu' f1 m' h' tk s1 S2 rfl) hs⟩
end
end Mine
end
section
open PySem PySem.W PySem.W.X PyProof.Rows PySem.Builtin.Str
set_option maxRecDepth 100000
set_option Elab.async false
namespace Mine
section
variable {c : Fc} {Γ Γ₁ : Gm} {xt mu fz : Led} {m : Str → Option Value} {s : Shared} {h h' : Heap}
theorem Nm.more {env : Env} {m : Str → Option Value} {mu mu' : Led} (hs : ∀ p ∈ mu, p ∈ mu') {y : Str} {w : Value} (h : Nm env m mu y w) : Nm env m mu' y w := by
  cases h with
  | loc hx hd e => exact .loc hx hd e
  | cell hx hd hc hm ho => exact .cell hx hd hc (hs _ hm) ho
theorem Rv.Is.more {mu mu' fz : Led} (hs : ∀ p ∈ mu, p ∈ mu') : ∀ {r : Rv} {v : Value}, r.Is mu fz v → r.Is mu' fz v
  | .d _, _, h => h
  | .ownE _ _, _, ⟨a, vs, n, e, hb, hm, hd⟩ => ⟨a, vs, n, e, hb, hs _ hm, hd⟩
  | .val _, _, h => h
  | .ob _, _, h => h
  | .lsE _, _, h => h
  | .bm _, _, h => h
  | .zp _ _, _, h => h
  | .fn _ _ _, _, h => h
  | .mt .., _, h => h
theorem Es.freeze {y : Str} {ad : Option Addr} {ly : List El} {ry : Rv} (S : Es c c.env Γ xt mu fz m m h) (hy : Γ y = some (.ownE ad ly)) (hrf : ry.free = true) (hry : ∀ fz a vs n, (a, lstO (List.toArray vs) n) ∈ fz → ElAll fz vs ly → ∀ mu, ry.Is mu fz (.ref a)) : ∃ mu' fz', (∀ p ∈ fz, p ∈ fz') ∧ Es c c.env (put Γ y ry) xt mu' fz' m m h := by
  obtain ⟨w, hw, a, vs, n, rfl, _, hm, ha⟩ := S.lc y _ hy
  have hcell : ∀ (b : Addr) (o : Obj) (v : Option Value), (b, o) ∈ mu → o.data = .cell v → b ≠ a := fun b o v hb ho e => by
    subst e
    have e1 := (S.get (.inr (.inl hb))).1
    have e2 := (S.get (.inr (.inl hm))).1
    rw [e1] at e2
    have h3 : o = lstO (List.toArray vs) n := Option.some.inj e2
    rw [h3] at ho
    cases ho
  have keep : ∀ {p : Addr × Obj}, p ∈ mu → p.1 ≠ a → p ∈ mu.filter (fun p => decide (p.1 ≠ a)) := fun hp hne => List.mem_filter.mpr ⟨hp, by simpa using hne⟩
  have nmD : ∀ {z : Str} {u : Value}, Nm c.env m (mu.filter fun p => decide (p.1 ≠ a)) z u → Nm c.env m mu z u := fun n => n.more fun p hp => (List.mem_filter.mp hp).1
  have nmU : ∀ {z : Str} {u : Value}, Nm c.env m mu z u → Nm c.env m (mu.filter fun p => decide (p.1 ≠ a)) z u := fun n => by
    cases n with
    | loc hx hd e => exact .loc hx hd e
    | cell hx hd hc hm' ho => exact .cell hx hd hc (keep hm' (hcell _ _ _ hm' ho)) ho
  have hsub : ∀ p ∈ (xt ++ mu.filter fun p => decide (p.1 ≠ a)).map (·.1), p ∈ (xt ++ mu).map (·.1) := fun p hp => by
    obtain ⟨q, hq, rfl⟩ := List.mem_map.mp hp
    refine List.mem_map_of_mem ?_
    rcases List.mem_append.mp hq with hq | hq
    · exact List.mem_append_left _ hq
    · exact List.mem_append_right _ (List.mem_filter.mp hq).1
  have haf : a ∉ (xt ++ mu.filter fun p => decide (p.1 ≠ a)).map (·.1) := fun hp => by
    obtain ⟨q, hq, e⟩ := List.mem_map.mp hp
    rcases List.mem_append.mp hq with hq | hq
    · have hn := S.nd
      rw [List.map_append, List.nodup_append] at hn
      exact hn.2.2 q.1 (List.mem_map_of_mem hq) a (List.mem_map.mpr ⟨_, hm, rfl⟩) e
    · have := (List.mem_filter.mp hq).2
      simp at this
      exact this e
  refine ⟨mu.filter fun p => decide (p.1 ≠ a), (a, lstO (List.toArray vs) n) :: fz, fun p hp => .tail _ hp, S.F, ?_, ?_, fun p hp => ?_, fun p hp => ?_, .inl ⟨rfl, rfl⟩, fun z rz e => ?_, fun z b h1 h2 => ?_, fun z z' az az' lz lz' u ez ez' nz nz' => ?_⟩
  · obtain ⟨tb, T, N⟩ := S.N
    refine ⟨tb, T, fun p hp => N p ?_⟩
    simp only [List.mem_append, List.mem_cons] at hp ⊢
    rcases hp with h | h | h | h | h
    · simp [h]
    · exact .inr (.inl (List.mem_filter.mp h).1)
    · simp [h]
    · rw [h]; exact .inr (.inl hm)
    · simp [h]
  · have hn := S.nd
    rw [List.map_append, List.nodup_append] at hn ⊢
    refine ⟨hn.1, hn.2.1.sublist (List.Sublist.map _ List.filter_sublist), fun b hb q hq => hn.2.2 b hb q ?_⟩
    obtain ⟨q', hq', rfl⟩ := List.mem_map.mp hq
    exact List.mem_map_of_mem (List.mem_filter.mp hq').1
  · rcases List.mem_cons.mp hp with rfl | hp
    · exact haf
    · exact fun hq => S.of p hp (hsub _ hq)
  · simp only [List.mem_append, List.mem_cons] at hp
    rcases hp with h | h | h | h
    · exact S.ot p (by simp [h])
    · exact S.ot p (by simp [(List.mem_filter.mp h).1])
    · rw [h]; exact S.ot (a, lstO (List.toArray vs) n) (by simp [hm])
    · exact S.ot p (by simp [h])
  · by_cases q : z = y
    · subst q
      rw [put_eq] at e; cases e
      exact ⟨.ref a, nmU hw, hry _ a vs n (.head _) (ha.mono fun p hp => .tail _ hp) _⟩
    · rw [put_ne q] at e
      obtain ⟨u, h1, h2⟩ := S.lc z rz e
      refine ⟨u, nmU h1, ?_⟩
      cases rz with
      | ownE ad' l =>
        obtain ⟨b, vs', n', rfl, had, hb, hl⟩ := h2
        refine ⟨b, vs', n', rfl, had, keep hb fun e' => q ?_, hl.mono fun p hp => .tail _ hp⟩
        have e'' : b = a := e'
        subst e''
        exact S.sep z y _ _ _ _ _ e hy h1 hw
      | _ => exact Rv.Is.mono (fun p hp => .tail _ hp) (h2.free rfl)
  · obtain ⟨o, v, h3, h4⟩ := S.ce z b h1 h2
    exact ⟨o, v, keep h3 (hcell _ _ _ h3 h4), h4⟩
  · have h1 : z ≠ y := fun q => by subst q; rw [put_eq] at ez; cases ez; cases hrf
    have h2 : z' ≠ y := fun q => by subst q; rw [put_eq] at ez'; cases ez'; cases hrf
    rw [put_ne h1] at ez; rw [put_ne h2] at ez'
    exact S.sep z z' az az' lz lz' u ez ez' (nmD nz) (nmD nz')
theorem Es.newL {x : Str} {a : Addr} {tb : Led} (S : Es c c.env Γ xt mu fz m m h) (hx : c.env.kindOf x = some .local) (hd : (x == ("__debug__" : Str)) = false) (T : Tb c.q tb)
    (F' : Fr c.g c.L h' (fun y => if y = x then some (.ref a) else m y)) (N' : News c.g c.L h' ((a, lstO #[] 0) :: (xt ++ (mu ++ (tb ++ fz))))) (l : ∀ p ∈ xt ++ (mu ++ (tb ++ fz)), p.1 < a) :
    Es c c.env (put Γ x (.own [])) xt ((a, lstO #[] 0) :: mu) fz (fun y => if y = x then some (.ref a) else m y) (fun y => if y = x then some (.ref a) else m y) h' := by
  have hna : ∀ p ∈ xt ++ (mu ++ (tb ++ fz)), p.1 ≠ a := fun p hp => Nat.ne_of_lt (l p hp)
  have nmD : ∀ {z : Str} {u : Value}, z ≠ x → Nm c.env (fun y => if y = x then some (.ref a) else m y) ((a, lstO #[] 0) :: mu) z u → Nm c.env m mu z u := fun q n => by
    cases n with
    | loc hx hd e => exact .loc hx hd (by rw [if_neg q] at e; exact e)
    | cell hx hd hc hm' ho =>
      rcases List.mem_cons.mp hm' with e | hm'
      · cases e; cases ho
      · exact .cell hx hd hc hm' ho
  refine ⟨F', ⟨tb, T, fun p hp => N' p ?_⟩, ?_, fun p hp => ?_, fun p hp => ?_, .inl ⟨rfl, rfl⟩, fun z rz e => ?_, fun z b h1 h2 => ?_, fun z z' az az' lz lz' u ez ez' nz nz' => ?_⟩
  · simp only [List.mem_append, List.mem_cons] at hp ⊢
    rcases hp with h | (h | h) | h | h <;> simp [h]
  · have hn := S.nd
    rw [List.map_append, List.nodup_append] at hn ⊢
    refine ⟨hn.1, List.nodup_cons.mpr ⟨fun hq => ?_, hn.2.1⟩, fun b hb q hq => ?_⟩
    · obtain ⟨q, hq, e⟩ := List.mem_map.mp hq
      exact hna q (List.mem_append_right _ (List.mem_append_left _ hq)) e
    · rcases List.mem_cons.mp hq with rfl | hq
      · obtain ⟨q', hq', rfl⟩ := List.mem_map.mp hb
        exact hna q' (List.mem_append_left _ hq')
      · exact hn.2.2 b hb q hq
  · intro hq
    rw [List.map_append, List.map_cons] at hq
    simp only [List.mem_append, List.mem_cons] at hq
    rcases hq with h | h | h
    · exact S.of p hp (by rw [List.map_append]; exact List.mem_append_left _ h)
    · exact hna p (by simp [hp]) h
    · exact S.of p hp (by rw [List.map_append]; exact List.mem_append_right _ h)
  · simp only [List.mem_append, List.mem_cons] at hp
    rcases hp with h | (h | h) | h
    · exact S.ot p (by simp [h])
    · rw [h]
      intro ht
      obtain ⟨o, ho⟩ := T.mem _ ht
      exact hna (a, o) (by simp [ho]) rfl
    · exact S.ot p (by simp [h])
    · exact S.ot p (by simp [h])
  · by_cases q : z = x
    · subst q
      rw [put_eq] at e; cases e
      exact ⟨.ref a, .loc hx hd (if_pos rfl), a, [], 0, rfl, (fun _ h => nomatch h), .head _, .nil⟩
    · rw [put_ne q] at e
      obtain ⟨u, h1, h2⟩ := S.lc z rz e
      exact ⟨u, (h1.upd q).more fun p hp => .tail _ hp, h2.more fun p hp => .tail _ hp⟩
  · obtain ⟨o, v, h3, h4⟩ := S.ce z b h1 h2
    exact ⟨o, v, .tail _ h3, h4⟩
  · by_cases q : z = x
    · by_cases q' : z' = x
      · rw [q, q']
      · exfalso
        subst q
        rw [put_ne q'] at ez'
        cases nz with
        | loc h1 h2 h3 =>
          rw [if_pos rfl] at h3
          have := Option.some.inj h3
          subst this
          obtain ⟨u, h4, b, vs, n, rfl, _, h5, h6⟩ := S.lc z' _ ez'
          have h7 := nmD q' nz'
          have h8 : (Value.ref b : Value) = .ref a := by
            cases h4 with
            | loc k1 k2 k3 => cases h7 with
              | loc j1 j2 j3 => rw [k3] at j3; exact Option.some.inj j3
              | cell j1 => rw [k1] at j1; cases j1
            | cell k1 k2 k3 k4 k5 => cases h7 with
              | loc j1 j2 j3 => rw [k1] at j1; cases j1
              | cell j1 j2 j3 j4 j5 =>
                rw [k3] at j3; cases j3
                have e1 := (S.get (.inr (.inl k4))).1
                have e2 := (S.get (.inr (.inl j4))).1
                rw [e1] at e2
                have e3 := Option.some.inj e2
                dsimp only at e3
                rw [← e3, k5] at j5
                exact Option.some.inj (Data.cell.inj j5)
          cases h8
          exact hna (_, _) (List.mem_append_right _ (List.mem_append_left _ h5)) rfl
        | cell h1 => rw [hx] at h1; cases h1
    · by_cases q' : z' = x
      · exfalso
        subst q'
        rw [put_ne q] at ez
        cases nz' with
        | loc h1 h2 h3 =>
          rw [if_pos rfl] at h3
          have := Option.some.inj h3
          subst this
          obtain ⟨u, h4, b, vs, n, rfl, _, h5, h6⟩ := S.lc z _ ez
          have h7 := nmD q nz
          have h8 : (Value.ref b : Value) = .ref a := by
            cases h4 with
            | loc k1 k2 k3 => cases h7 with
              | loc j1 j2 j3 => rw [k3] at j3; exact Option.some.inj j3
              | cell j1 => rw [k1] at j1; cases j1
            | cell k1 k2 k3 k4 k5 => cases h7 with
              | loc j1 j2 j3 => rw [k1] at j1; cases j1
              | cell j1 j2 j3 j4 j5 =>
                rw [k3] at j3; cases j3
                have e1 := (S.get (.inr (.inl k4))).1
                have e2 := (S.get (.inr (.inl j4))).1
                rw [e1] at e2
                have e3 := Option.some.inj e2
                dsimp only at e3
                rw [← e3, k5] at j5
                exact Option.some.inj (Data.cell.inj j5)
          cases h8
          exact hna (_, _) (List.mem_append_right _ (List.mem_append_left _ h5)) rfl
        | cell h1 => rw [hx] at h1; cases h1
      · rw [put_ne q] at ez; rw [put_ne q'] at ez'
        exact S.sep z z' az az' lz lz' u ez ez' (nmD q nz) (nmD q' nz')
end
end Mine
end
section
open PySem PySem.W PySem.W.X PyProof.Rows PySem.Builtin.Str
set_option maxRecDepth 100000
set_option Elab.async false
namespace Mine
section
variable {c : Fc} {Γ Γ₁ : Gm} {pos p2 cp ap : Pos} {e f : Expr} {r : Rv} {x y : Str} {fl : Fl2}
theorem StT.newL {px pl : Pos} (hk : c.cs.kind = .function) (hx : c.env.kindOf x = some .local := by rfl) (hd : (x == ("__debug__" : Str)) = false := by decide) (hs : swapsWith (.List [] pl) (some (.Name x px)) pos.line c.env = pure false := by rfl) :
    StT c Γ (.Assign [.Name x px] (.List [] pl) pos) (put Γ x (.own [])) .next := by
  refine ⟨fun xt mu fz m s Q E S q => ?_⟩
  obtain ⟨tb, T, N⟩ := S.N
  refine wpAny_Assign_Name (List_ (args_nil (newList_K S.F N (fun l h' F' N' lt => ?_) (Nat.zero_le _)))) hs
  exact storeX_L (s := { s with heap := h' }) F' N' (fun h2 F2 N2 => q _ _ fz _ h2 _ (fun _ h => h) (S.newL hx hd T F2 N2 lt) rfl) hk hx
theorem ExT.frzA {ad : Option Addr} {ly : List Dat} {T : Sem Flow} (hy : Γ y = some (.ownE ad (ly.map .d))) (h : ExT c (put Γ y (.d (.list ly))) T Γ₁ fl) : ExT c Γ T Γ₁ fl := by
  refine ⟨fun xt mu fz m s Q E S q => ?_⟩
  obtain ⟨mu', fz', hs, S'⟩ := S.freeze hy (ry := .d (.list ly)) rfl fun fz a vs n hm ha mu => .list hm ha.dats
  exact h.run xt mu' fz' m s Q E S' fun g m2 f2 mm2 h2 k2 s2 S2 e2 => q g m2 f2 mm2 h2 k2 (fun p hp => s2 p (hs p hp)) S2 e2
theorem ExT.frzE {ad : Option Addr} {l : List El} {T : Sem Flow} (hy : Γ y = some (.ownE ad l)) (h : ExT c (put Γ y (.lsE l)) T Γ₁ fl) : ExT c Γ T Γ₁ fl := by
  refine ⟨fun xt mu fz m s Q E S q => ?_⟩
  obtain ⟨mu', fz', hs, S'⟩ := S.freeze hy (ry := .lsE l) rfl fun fz a vs n hm ha mu => ⟨a, vs, n, rfl, hm, ha⟩
  exact h.run xt mu' fz' m s Q E S' fun g m2 f2 mm2 h2 k2 s2 S2 e2 => q g m2 f2 mm2 h2 k2 (fun p hp => s2 p (hs p hp)) S2 e2
theorem ExT.frz {ly : List Dat} {T : Sem Flow} (hy : Γ y = some (.own ly)) (h : ExT c (put Γ y (.d (.list ly))) T Γ₁ fl) : ExT c Γ T Γ₁ fl := ExT.frzA hy h
theorem ExT.weak {T : Sem Flow} (hw : ∀ z r, Γ₁ z = some r → Γ z = some r) {Γ₂ : Gm} (h : ExT c Γ₁ T Γ₂ fl) : ExT c Γ T Γ₂ fl := by
  refine ⟨fun xt mu fz m s Q E S q => ?_⟩
  exact h.run xt mu fz m s Q E ⟨S.F, S.N, S.nd, S.of, S.ot, S.hn, fun z r e => S.lc z r (hw z r e), S.ce, fun z z' az az' lz lz' u ez ez' => S.sep z z' az az' lz lz' u (hw _ _ ez) (hw _ _ ez')⟩ q
theorem ExT.post {T : Sem Flow} {Γ₂ : Gm} (h : ExT c Γ T Γ₂ fl) (hw : ∀ z r, Γ₁ z = some r → Γ₂ z = some r) : ExT c Γ T Γ₁ fl := by
  refine ⟨fun xt mu fz m s Q E S q => ?_⟩
  exact h.run xt mu fz m s Q E S fun g m2 f2 mm2 h2 k2 s2 S2 e2 => q g m2 f2 mm2 h2 k2 s2 ⟨S2.F, S2.N, S2.nd, S2.of, S2.ot, S2.hn, fun z r e => S2.lc z r (hw z r e), S2.ce, fun z z' az az' lz lz' u ez ez' => S2.sep z z' az az' lz lz' u (hw _ _ ez) (hw _ _ ez')⟩ e2
theorem Es.pushed {xt mu fz : Led} {m : Str → Option Value} {h h₂ : Heap} {x : Str} {ad : Option Addr} {l : List El} {d : El} {a : Addr} {vs : List Value} {n : Nat} {v : Value} (S : Es c c.env Γ xt mu fz m m h) (hx : Γ x = some (.ownE ad l)) (hw : Nm c.env m mu x (.ref a)) (had : ∀ b, ad = some b → b = a) (hm : (a, lstO (List.toArray vs) n) ∈ mu) (ha : ElAll fz vs l) (hv : d.Is fz v)
    (hs : Heap.SameBut a h h₂) (hg : h₂.get? a = some (lstO (List.toArray (vs ++ [v])) (n + 1))) : Es c c.env (put Γ x (.ownE ad (l ++ [d]))) xt (setA a (lstO (List.toArray (vs ++ [v])) (n + 1)) mu) fz m m h₂ := by
  have g := (S.get (.inr (.inl hm))).1
  obtain ⟨F', N', nd, of, ot⟩ := S.setN hm hs hg
  have hcell : ∀ (b : Addr) (o : Obj) (v : Option Value), (b, o) ∈ mu → o.data = .cell v → b ≠ a := fun b o v hb ho e => by
    subst e
    have e1 := (S.get (.inr (.inl hb))).1
    rw [e1] at g
    have h3 : o = lstO (List.toArray vs) n := Option.some.inj g
    rw [h3] at ho
    cases ho
  have nmU : ∀ {z : Str} {u : Value}, Nm c.env m mu z u → Nm c.env m (setA a (lstO (List.toArray (vs ++ [v])) (n + 1)) mu) z u := fun n => by
    cases n with
    | loc hx hd e => exact .loc hx hd e
    | cell hx hd hc hm' ho => exact .cell hx hd hc (setA_mem hm' (hcell _ _ _ hm' ho)) ho
  have nmD : ∀ {z : Str} {u : Value}, Nm c.env m (setA a (lstO (List.toArray (vs ++ [v])) (n + 1)) mu) z u → Nm c.env m mu z u := fun n => by
    cases n with
    | loc hx hd e => exact .loc hx hd e
    | cell hx hd hc hm' ho =>
      rcases setA_inv hm' with ⟨_, h2⟩ | e
      · exact .cell hx hd hc h2 ho
      · cases e; cases ho
  refine ⟨F', N', nd, of, ot, .inl ⟨rfl, rfl⟩, fun z rz ez => ?_, fun z b h1 h2 => ?_, fun z z' az az' lz lz' u ez ez' nz nz' => ?_⟩
  · by_cases qz : z = x
    · subst qz
      rw [put_eq] at ez; cases ez
      exact ⟨.ref a, nmU hw, a, _, _, rfl, had, setA_self hm, ha.snoc hv⟩
    · rw [put_ne qz] at ez
      obtain ⟨u, h1, h2⟩ := S.lc z rz ez
      refine ⟨u, nmU h1, ?_⟩
      cases rz with
      | ownE ad' l' =>
        obtain ⟨b, vs', n', rfl, had', hb, hl⟩ := h2
        refine ⟨b, vs', n', rfl, had', setA_mem hb fun e' => qz ?_, hl⟩
        have e'' : b = a := e'
        subst e''
        exact S.sep z x _ _ _ _ _ ez hx h1 hw
      | _ => exact h2.free rfl
  · obtain ⟨o, v', h3, h4⟩ := S.ce z b h1 h2
    exact ⟨o, v', setA_mem h3 (hcell _ _ _ h3 h4), h4⟩
  · have own : ∀ {z : Str} {az : Option Addr} {lz : List El}, put Γ x (.ownE ad (l ++ [d])) z = some (.ownE az lz) → ∃ a' l', Γ z = some (.ownE a' l') := fun {z az lz} ez => by
      by_cases qz : z = x
      · subst qz; exact ⟨_, _, hx⟩
      · rw [put_ne qz] at ez; exact ⟨_, _, ez⟩
    obtain ⟨a1, l1, e1⟩ := own ez
    obtain ⟨a2, l2, e2⟩ := own ez'
    exact S.sep z z' _ _ _ _ u e1 e2 (nmD nz) (nmD nz')
theorem StT.appE {ad : Option Addr} {l : List El} {d : El} {r : Rv} {px : Pos} (hk : c.cs.kind = .function) (hx : Γ x = some (.ownE ad l)) (h : EvT c c.env Γ e r) (hr : ∀ mu fz v, r.Is mu fz v → d.Is fz v) (hz : l.length ≤ 1000000)
    (hbase : attributeBase (.Name x px) "append" c.env (eval (.Name x px) c.env) = eval (.Name x px) c.env := by rfl)
    (hfew : ((backTo cp (starEach [e] c.env)).all (fun x => !x.1) && (backToKw cp (keywordEach [] c.env)).all (fun x => x.1.isSome)
      && decide (([e] : List Expr).length + ([] : List Keyword).length + (if ([] : List Keyword).isEmpty then 0 else 1) < 30)) = true := by rfl)
    (hline : (ap.endLine == cp.line) = true := by rfl) (htrees : backTo cp (starEach [e] c.env) = [(false, eval e c.env)] := by rfl)
    (hi : interactive c.env = false := by rfl) (hs : swapsWith (.Call (.Attribute (.Name x px) "append" ap) [e] [] cp) Option.none pos.line c.env = pure false := by rfl) :
    StT c Γ (.Expr (.Call (.Attribute (.Name x px) "append" ap) [e] [] cp) pos) (put Γ x (.ownE ad (l ++ [d]))) .next := by
  refine ⟨fun xt mu fz m s Q E S q => ?_⟩
  obtain ⟨w, hw, a, vs, n, rfl, had, hm, ha⟩ := S.lc x _ hx
  have g := (S.get (.inr (.inl hm))).1
  refine wpAny_Expr (wpAny_Call_append hbase hfew hline htrees ?_) hi hs
  have key : wpAny c.M c.A (eval e c.env) (fun y s₂ => wpAny c.M c.A (call (.builtin "list.append") [.ref a, y]) (fun v s' => match v with | .ref _ => False | _ => Q .next s') E s₂) E s := by
    refine h.run xt mu fz m m s _ E S fun v f1 h1 k1 s1 S1 v1 => ?_
    have g1 := (S1.get (.inr (.inl hm))).1
    refine append_at (hsz := by rw [List.size_toArray, ha.length, sizeLine_eq]; lia) g1 fun h₂ hs₂ hg₂ => ?_
    have e2 : lstO ((List.toArray vs).push v) (n + 1) = lstO (List.toArray (vs ++ [v])) (n + 1) := by rw [List.push_toArray]
    exact q _ _ f1 m h₂ k1 s1 (S1.pushed hx hw had hm (ha.mono s1) (hr _ _ _ v1) hs₂ (e2 ▸ hg₂)) rfl
  have wk : c.env.scope.kind = .function := hk
  have fin : ∃ D its, (Value.ref a : Value) = .ref D ∧ PlainL s.heap D its ∧ wpAny c.M c.A (eval e c.env) (fun y s₂ => wpAny c.M c.A (call (.builtin "list.append") [.ref D, y]) (fun v s' => match v with | .ref _ => False | _ => Q .next s') E s₂) E s :=
    ⟨a, _, rfl, ⟨_, n, g, rfl, rfl, rfl⟩, key⟩
  cases hw with
  | loc hx' hd e => exact wpAny_Name (wpAny_loadName_local wk hx' S.ns e fin) hd
  | cell hx' hd hc hm' ho => exact wpAny_Name (wpAny_loadName_cell wk hx' hc ⟨_, (S.get (.inr (.inl hm'))).1, ho⟩ fin) hd
theorem StT.app {l : List Dat} {d : Dat} {px : Pos} (hk : c.cs.kind = .function) (hx : Γ x = some (.own l)) (h : EvT c c.env Γ e (.d d)) (hz : l.length ≤ 1000000)
    (hbase : attributeBase (.Name x px) "append" c.env (eval (.Name x px) c.env) = eval (.Name x px) c.env := by rfl)
    (hfew : ((backTo cp (starEach [e] c.env)).all (fun x => !x.1) && (backToKw cp (keywordEach [] c.env)).all (fun x => x.1.isSome)
      && decide (([e] : List Expr).length + ([] : List Keyword).length + (if ([] : List Keyword).isEmpty then 0 else 1) < 30)) = true := by rfl)
    (hline : (ap.endLine == cp.line) = true := by rfl) (htrees : backTo cp (starEach [e] c.env) = [(false, eval e c.env)] := by rfl)
    (hi : interactive c.env = false := by rfl) (hs : swapsWith (.Call (.Attribute (.Name x px) "append" ap) [e] [] cp) Option.none pos.line c.env = pure false := by rfl) :
    StT c Γ (.Expr (.Call (.Attribute (.Name x px) "append" ap) [e] [] cp) pos) (put Γ x (.own (l ++ [d]))) .next := by
  have z := StT.appE (ap := ap) (cp := cp) (pos := pos) (px := px) (d := .d d) hk hx h (fun _ _ _ h => h) (by rw [List.length_map]; exact hz) hbase hfew hline htrees hi hs
  have e : (.ownE none (l.map El.d ++ [El.d d]) : Rv) = .own (l ++ [d]) := congrArg (Rv.ownE none) (List.map_append (f := El.d) (l₁ := l) (l₂ := [d])).symm
  rw [e] at z
  exact z
theorem StT.aug {i j : Int} {px : Pos} (hk : c.cs.kind = .function) (hx : Γ x = some (.d (.int i))) (h : EvT c c.env Γ e (.d (.int j))) (t : SoT c Γ x (.d (.int (i + j)))) (hl : c.env.kindOf x = some .local := by rfl) :
    StT c Γ (.AugAssign (.Name x px) .Add e pos) (put Γ x (.d (.int (i + j)))) .next := by
  refine ⟨fun xt mu fz m s Q E S q => ?_⟩
  obtain ⟨w, hw, hv⟩ := S.lc x _ hx
  obtain ⟨t1, rfl⟩ := DatIn.intE hv
  cases hw with
  | cell h1 => rw [hl] at h1; cases h1
  | loc h1 h2 h3 =>
    refine wpAny_AugAssign_Name (wpAny_loadName_local hk hl S.F.ns h3 (h.run xt mu fz m m s _ E S fun v f1 h1 k1 s1 S1 v1 => ?_))
    obtain ⟨t2, rfl⟩ := DatIn.intE v1
    exact iadd_int (t.run xt mu f1 m _ _ _ E S1 (.int _ _) fun mu' m' h' tk S2 => q _ mu' f1 m' h' tk s1 S2 rfl)
theorem StT.pair {d1 d2 : Dat} {px py tp : Pos} {k : Nat} (h : EvT c c.env Γ e (.d (.tuple [d1, d2]))) (t1 : SoT c Γ x (.d d1)) (t2 : SoT c (put Γ x (.d d1)) y (.d d2))
    (hs : swapsWithSole [.Tuple [.Name x px, .Name y py] k tp] e pos.line c.env = pure false := by rfl) (hw : swappedStores [.Tuple [.Name x px, .Name y py] k tp] e c.env = pure Option.none := by rfl) :
    StT c Γ (.Assign [.Tuple [.Name x px, .Name y py] k tp] e pos) (put (put Γ x (.d d1)) y (.d d2)) .next := by
  refine ⟨fun xt mu fz m s Q E S q => ?_⟩
  refine Assign_Tuple (h.run xt mu fz m m s _ E S fun v f1 h1 k1 s1 S1 v1 => ?_) hs hw
  obtain ⟨a, w1, w2, n, rfl, hm, a1, a2⟩ := DatIn.tup2E v1
  obtain ⟨tb, T, N⟩ := S1.N
  refine unpackN_ (s := { s with heap := h1, toks := k1 }) (items := #[w1, w2]) S1.F N ⟨_, (S1.get (.inr (.inr hm))).1, rfl, _, rfl⟩ rfl rfl rfl fun h' F' N' => ?_
  have S2 := S1.move F' ⟨tb, T, N'⟩
  refine assignInOrder_cons (wpAny_assign_Name (t1.run xt mu f1 m w1 { s with heap := h', toks := k1 } _ _ S2 a1 fun mu3 m3 h3 k3 S3 => ?_))
  refine assignInOrder_cons (wpAny_assign_Name (t2.run xt mu3 f1 m3 w2 { s with heap := h3, toks := k3 } _ _ S3 a2 fun mu4 m4 h4 k4 S4 => ?_))
  exact assignInOrder_nil (q _ mu4 f1 m4 h4 k4 s1 S4 rfl)
end
end Mine
end
section
open PySem PySem.W PySem.W.X PyProof.Rows PySem.Builtin.Str
set_option maxRecDepth 100000
set_option Elab.async false
namespace Mine
noncomputable def fcOf (k : Fc) (qual : Str) (scope : Scope) (f : Addr) (cdv : Value) : Fc := { k with cn := qual, cs := scope, a := f, ccd := cdv, cl := [] }
noncomputable def fcOfC (k : Fc) (qual : Str) (scope : Scope) (f : Addr) (cdv : Value) : Fc := { k with cn := qual, cs := scope, a := f, ccd := cdv, cl := cellsFrom (k.L + 1) scope.names [] }
noncomputable def argG : List Str → List Rv → Gm
  | x :: pn, r :: as => fun y => if y = x then some r else argG pn as y
  | _, _ => fun _ => none
theorem lookup_snoc {β : Type} {y : Str} {p : Str × β} : ∀ {l : List (Str × β)}, (∀ q ∈ l, q.1 ≠ p.1) → (l ++ [p]).lookup y = if y = p.1 then some p.2 else l.lookup y
  | [], _ => by
    rw [List.nil_append, List.lookup_cons]
    by_cases h : y = p.1
    · rw [if_pos h, beq_iff_eq.mpr h]
    · rw [if_neg h, beq_eq_false_iff_ne.mpr h]
  | q :: l, hn => by
    rw [List.cons_append, List.lookup_cons, List.lookup_cons]
    by_cases h : y = q.1
    · have : y ≠ p.1 := fun e => hn q (.head _) (h.symm.trans e)
      rw [if_neg this, beq_iff_eq.mpr h]
    · rw [beq_eq_false_iff_ne.mpr h]
      exact lookup_snoc fun q hq => hn q (.tail _ hq)
theorem args_told {mu fz : Led} {y : Str} {r : Rv} : ∀ {pn : List Str} {as : List Rv} {vs : List Value}, pn.Nodup → RAll mu fz as vs → argG pn as y = some r → ∃ v, (pn.zip vs).reverse.lookup y = some v ∧ r.Is mu fz v
  | [], _, _, _, _, h => by cases h
  | _ :: _, [], _, _, _, h => by cases h
  | x :: pn, a :: as, _, hn, ha, h => by
    cases ha with
    | cons h1 h2 =>
      rename_i v vs
      rw [List.nodup_cons] at hn
      rw [List.zip_cons_cons, List.reverse_cons, lookup_snoc (fun q hq e => hn.1 (by
        have hq := List.mem_reverse.mp hq
        have h3 := (List.of_mem_zip (a := q.1) (b := q.2) hq).1
        have e' : q.1 = x := e
        exact e' ▸ h3))]
      unfold argG at h
      by_cases q : y = x
      · rw [if_pos q] at h ⊢; cases h; exact ⟨v, rfl, h1⟩
      · rw [if_neg q] at h ⊢; exact args_told hn.2 h2 h
theorem argG_free {y : Str} {r : Rv} : ∀ {pn : List Str} {as : List Rv}, (∀ a ∈ as, a.free = true) → argG pn as y = some r → r.free = true
  | [], _, _, h => by cases h
  | _ :: _, [], _, h => by cases h
  | x :: pn, a :: as, hf, h => by
    unfold argG at h
    by_cases q : y = x
    · rw [if_pos q] at h; cases h; exact hf _ (.head _)
    · rw [if_neg q] at h; exact argG_free (fun b hb => hf b (.tail _ hb)) h
theorem RAll.anyMu {mu mu' fz : Led} {rs : List Rv} {vs : List Value} (hf : ∀ r ∈ rs, r.free = true) (h : RAll mu fz rs vs) : RAll mu' fz rs vs := by
  induction h with
  | nil => exact .nil
  | cons a _ ih => exact .cons (a.free (hf _ (.head _))) (ih fun r hr => hf r (.tail _ hr))
theorem RAll.len {mu fz : Led} {rs : List Rv} {vs : List Value} (h : RAll mu fz rs vs) : vs.length = rs.length := by
  induction h with
  | nil => rfl
  | cons _ _ ih => rw [List.length_cons, List.length_cons, ih]
end Mine
end
section
open PySem PySem.W PySem.W.X PyProof.Rows PySem.Builtin.Str
set_option maxRecDepth 100000
set_option Elab.async false
namespace Mine
theorem cellsFrom_ok : ∀ (l : List (Str × NameKind)) (n : Nat) (acc : List (Str × Addr)), (acc.map (·.2)).Nodup → (∀ a ∈ acc.map (·.2), a < n) → ((cellsFrom n l acc).map (·.2)).Nodup ∧ ∀ a ∈ (cellsFrom n l acc).map (·.2), a ∈ acc.map (·.2) ∨ n ≤ a
  | [], n, acc, h1, h2 => ⟨h1, fun a ha => .inl ha⟩
  | (x, k) :: l, n, acc, h1, h2 => by
    unfold cellsFrom
    split
    · have z := cellsFrom_ok l (n + 1) ((x, n) :: acc) (List.nodup_cons.mpr ⟨fun h => Nat.lt_irrefl _ (h2 _ h), h1⟩) (fun a ha => by
        rcases List.mem_cons.mp ha with rfl | ha
        · exact Nat.lt_succ_self _
        · exact Nat.lt_succ_of_lt (h2 a ha))
      refine ⟨z.1, fun a ha => ?_⟩
      rcases z.2 a ha with h | h
      · rcases List.mem_cons.mp h with rfl | h
        · exact .inr (Nat.le_refl _)
        · exact .inl h
      · exact .inr (Nat.le_of_succ_le h)
    · exact cellsFrom_ok l n acc h1 h2
theorem CellsAre.fst {cm : Str → Option Value} {cs : List (Str × Addr)} {cells : Led} (h : CellsAre cm cs cells) : cells.map (·.1) = cs.map (·.2) := by
  induction h with
  | nil => rfl
  | cons _ _ ih => rw [List.map_cons, List.map_cons, ih]
theorem CellsAre.at {cm : Str → Option Value} {cs : List (Str × Addr)} {cells : Led} {x : Str} {a : Addr} (h : CellsAre cm cs cells) (hm : (x, a) ∈ cs) : ∃ o, (a, o) ∈ cells ∧ o.data = .cell (cm x) := by
  induction h with
  | nil => cases hm
  | cons h1 _ ih =>
    rcases List.mem_cons.mp hm with e | hm
    · cases e; exact ⟨_, .head _, h1⟩
    · obtain ⟨o, h3, h4⟩ := ih hm
      exact ⟨o, .tail _ h3, h4⟩
theorem bindL_off {ko : Str → Option NameKind} {y : Str} : ∀ {pn : List Str} {vs : List Value} {m : Str → Option Value}, y ∉ pn → bindL ko (pn.zip vs) m y = m y
  | [], _, _, _ => rfl
  | _ :: _, [], _, _ => rfl
  | x :: pn, v :: vs, m, h => by
    rw [List.zip_cons_cons]
    unfold bindL
    rw [bindL_off fun h' => h (.tail _ h')]
    split
    · exact if_neg fun (e : y = x) => h (e ▸ .head _)
    · rfl
theorem bindC_off {ko : Str → Option NameKind} {y : Str} : ∀ {pn : List Str} {vs : List Value} {m : Str → Option Value}, y ∉ pn → bindC ko (pn.zip vs) m y = m y
  | [], _, _, _ => rfl
  | _ :: _, [], _, _ => rfl
  | x :: pn, v :: vs, m, h => by
    rw [List.zip_cons_cons]
    unfold bindC
    rw [bindC_off fun h' => h (.tail _ h')]
    split
    · rfl
    · exact if_neg fun (e : y = x) => h (e ▸ .head _)
theorem args_toldC {mu fz : Led} {ko : Str → Option NameKind} {y : Str} {r : Rv} : ∀ {pn : List Str} {as : List Rv} {vs : List Value} {m cm : Str → Option Value}, pn.Nodup → RAll mu fz as vs → argG pn as y = some r →
    y ∈ pn ∧ ∃ v, r.Is mu fz v ∧ (ko y = some .local → bindL ko (pn.zip vs) m y = some v) ∧ (ko y ≠ some .local → bindC ko (pn.zip vs) cm y = some v)
  | [], _, _, _, _, _, _, h => by cases h
  | _ :: _, [], _, _, _, _, _, h => by cases h
  | x :: pn, a :: as, _, m, cm, hn, ha, h => by
    cases ha with
    | cons h1 h2 =>
      rename_i v vs
      rw [List.nodup_cons] at hn
      unfold argG at h
      rw [List.zip_cons_cons]
      unfold bindL bindC
      by_cases q : y = x
      · rw [if_pos q] at h; cases h
        subst q
        refine ⟨.head _, v, h1, fun e => ?_, fun e => ?_⟩
        · rw [bindL_off hn.1, if_pos e]; exact if_pos rfl
        · rw [bindC_off hn.1, if_neg e]; exact if_pos rfl
      · rw [if_neg q] at h
        obtain ⟨hy, w, h3, h4, h5⟩ := args_toldC (ko := ko) (m := if ko x = some .local then fun y => if y = x then some v else m y else m) (cm := if ko x = some .local then cm else fun y => if y = x then some v else cm y) hn.2 h2 h
        exact ⟨.tail _ hy, w, h3, h4, h5⟩
theorem Es.leave {c k : Fc} {env kenv : Env} {Γ Γ' : Gm} {xt mu fz mu' fz' tb' : Led} {m mm m' mm' : Str → Option Value} {h h' : Heap} (S : Es c env Γ xt mu fz m mm h) (S' : Es k kenv Γ' (xt ++ mu) mu' fz' m' mm' h') (hs : ∀ p ∈ fz, p ∈ fz')
    (F2 : Fr c.g c.L h' m) (T1 : Tb c.q tb') (N2 : News c.g c.L h' ((xt ++ mu) ++ (mu' ++ (tb' ++ fz')))) : Es c env Γ xt mu fz' m mm h' :=
  S.more F2 ⟨tb', T1, fun p hp => N2 p (by
    simp only [List.mem_append] at hp ⊢
    rcases hp with h | h | h | h <;> simp [h])⟩ hs fun p hp => .inr ⟨fun hm => S'.of p hp (by
      rw [List.map_append]
      exact List.mem_append_left _ hm), S'.ot p (List.mem_append_right _ (List.mem_append_right _ hp))⟩
section
variable {qual name : Str} {params : Arguments} {body : List Stmt} {scope : Scope} {dV kV doc pm cdv ct oc : Value} {an od : Option Addr} {osl : Array (Option Value)} {f : Addr} {pn : List Str} {as : List Rv} {r : Rv} {d u : Nat} {Γ' : Gm}
theorem enterC (ho : ∀ P, (hd.heap_1 P).lookup f = some ⟨oc, od, .func (fnOf name qual params body scope dV kV doc pm an cdv ct), osl⟩) (hcd : ∀ P, codeIn (hd.heap_1 P) cdv qual = true)
    (hn : pn.Nodup) (hfree : ∀ a ∈ as, a.free = true) (hr : r.free = true)
    (hkd : ∀ x ∈ pn, scope.names.lookup x = some .local ∨ (scope.names.lookup x = some .cell ∧ ∀ L, ∃ a, (cellsFrom (L + 1) scope.names []).lookup x = some a)) (hdb : ∀ x ∈ pn, (x == ("__debug__" : Str)) = false) (hnd : ((cellsFrom 0 scope.names []).map (·.1)).Nodup) (hk : scope.kind = .function)
    (h : ∀ k : Fc, (fcOfC k qual scope f cdv).Ok d u → BdT (fcOfC k qual scope f cdv) (argG pn as) body Γ' (.ret r)) (hco : scope.isCoroutine = false) (hgen : scope.isGenerator = false)
    {c : Fc} {env : Env} {Γ : Gm} {xt mu fz : Led} {m mm : Str → Option Value} {s : Shared} {Q E : Value → Shared → Prop} {vs vals : List Value} {kw : List (Str × Value)} (O : c.Ok (d + 1) (u + 3)) (S : Es c env Γ xt mu fz m mm s.heap) (hvs : RAll mu fz as vals)
    (hb : BindsTo s (fnOf name qual params body scope dV kV doc pm an cdv ct) ⟨vs, kw⟩ (pn.zip vals))
    (q : ∀ v fz' h' tk, (∀ p ∈ fz, p ∈ fz') → Es c env Γ xt mu fz' m mm h' → r.Is mu fz' v → Q v { s with heap := h', toks := tk }) : wpAny c.M c.A (call (.ref f) vs kw) Q E s := by
  obtain ⟨tb, T, N⟩ := S.N
  have hpz : ∀ {y : Str × Value}, y ∈ pn.zip vals → y.1 ∈ pn := fun {y} hy => (List.of_mem_zip (a := y.1) (b := y.2) hy).1
  refine wpAny_call (code_defC (env := c.env) (outer := c.outer) O.B S.F O.X N O.T rfl rfl O.hk (ho _) (hcd _) (by have := O.dp; show c.dp < _; lia) hb (List.all_eq_true.mpr fun y hy => ?_) hnd ?_ hco hgen hk)
  · rcases hkd _ (hpz hy) with e | ⟨e, _⟩ <;> rw [e] <;> decide
  intro g L' h₁ tk cells FG F' N' Y B' X' T' l1
  have Z := h { c with L := L', outer := c.env :: c.outer, dp := c.dp + 1, un := c.un + 3, g := g, A₀ := c.A } ⟨X', T', B', hk, by have := O.dp; show c.dp + 1 + d < _; lia, by have := O.un; show c.un + 3 + u < _; lia⟩
  have hck := cellsFrom_ok scope.names (L' + 1) [] List.nodup_nil (fun a ha => nomatch ha)
  have hfst := CellsAre.fst Y
  have hgt : ∀ a ∈ cells.map (·.1), L' < a := fun a ha => (hck.2 a (hfst ▸ ha)).elim (fun h => nomatch h) id
  have low : ∀ p ∈ (xt ++ mu) ++ fz, p.1 < L' := fun p hp => l1 p (by
    simp only [List.mem_append] at hp ⊢
    rcases hp with (h | h) | h <;> simp [h])
  refine Z.run (xt ++ mu) cells fz _ { s with heap := h₁, toks := tk } _ _ ⟨F', ⟨tb, T, fun p hp => N' p ?_⟩, ?_, fun p hp hq => ?_, fun p hp => ?_, .inl ⟨rfl, rfl⟩, fun y ry e => ?_, fun y b h1 h2 => ?_, fun y z ay az ly lz v ey ez ny nz => ?_⟩ ?_
  · simp only [List.mem_append] at hp ⊢
    rcases hp with (h | h) | h | h | h <;> simp [h]
  · rw [List.map_append, List.nodup_append]
    refine ⟨S.nd, hfst ▸ hck.1, fun a ha b hb e => ?_⟩
    obtain ⟨p, hp, rfl⟩ := List.mem_map.mp ha
    exact Nat.lt_asymm (low p (List.mem_append_left _ hp)) (e ▸ hgt b hb)
  · rw [List.map_append] at hq
    rcases List.mem_append.mp hq with hq | hq
    · exact S.of p hp hq
    · exact Nat.lt_asymm (hgt _ hq) (low p (List.mem_append_right _ hp))
  · simp only [List.mem_append] at hp
    rcases hp with (h | h) | h | h
    · exact S.ot p (by simp [h])
    · exact S.ot p (by simp [h])
    · intro ht
      obtain ⟨o, ho⟩ := T.mem _ ht
      exact Nat.lt_asymm (hgt _ (List.mem_map_of_mem h)) (l1 (p.1, o) (by simp [ho]))
    · exact S.ot p (by simp [h])
  · obtain ⟨hy, v, h2, h3, h4⟩ := args_toldC (mu := cells) (ko := (envOfC qual scope L' f cdv).kindOf) (m := fun _ => none) (cm := fun _ => none) hn (hvs.anyMu hfree) e
    refine ⟨v, ?_, h2⟩
    rcases hkd y hy with e1 | ⟨e1, e2⟩
    · exact .loc e1 (hdb y hy) (h3 e1)
    · obtain ⟨a, ha⟩ := e2 L'
      obtain ⟨o, ho1, ho2⟩ := CellsAre.at Y (mem_lookup ha)
      have e3 : (envOfC qual scope L' f cdv).kindOf y = some .cell := e1
      exact .cell e1 (hdb y hy) ha ho1 (by rw [ho2, h4 (by rw [e3]; intro h; cases h)])
  · obtain ⟨o, ho1, ho2⟩ := CellsAre.at Y (mem_lookup h2)
    exact ⟨o, _, ho1, ho2⟩
  · have := argG_free hfree ey
    cases this
  · intro fl mu' fz' m' h' tk hs S' hfl
    obtain ⟨v, rfl, hv⟩ := hfl
    obtain ⟨tb', T1, N1⟩ := S'.N
    exact leaveK_ S'.F N1 fun F2 N2 => q v fz' h' tk hs (S.leave S' hs F2 T1 N2) (hv.free hr)
end
end Mine
end
section
open PySem PySem.W PyProof.Rows PySem.Sre
set_option maxRecDepth 100000
set_option Elab.async false
namespace Mine
noncomputable abbrev KV := List Nat × List Nat
noncomputable def bc (c : Nat) : Bool := (48 ≤ c && c ≤ 57) || (65 ≤ c && c ≤ 90) || (97 ≤ c && c ≤ 122) || c == 42 || c == 43
noncomputable def Wr (v : List Nat) : List Nat := if v.all bc = true then v else 34 :: (v ++ [34])
noncomputable def kvT (p : KV) : List Nat := p.1 ++ 61 :: Wr p.2
noncomputable def sepT (b : Bool) : List Nat := if b then [44, 32] else [59, 32]
noncomputable def tailT : List (Bool × KV) → List Nat
  | [] => []
  | (b, p) :: r => sepT b ++ (kvT p ++ tailT r)
noncomputable abbrev EscOk (v : List Nat) : Prop := Hits 10000 (forSearch cESC (S v).cps 1 0 (S v).cps.size false) Failed
structure OkP (p : KV) : Prop where
  k0 : p.1 ≠ []
  kc : ∀ c ∈ p.1, tokc c = true
  v2 : 2 ≤ p.2.length
  vq : ∀ c ∈ p.2, quoc c = true
  esc : EscOk p.2
theorem bc_sp {c : Nat} (h : bc c = true) : sp c = false ∧ c ≠ 34 ∧ valc c = true := by
  have hb : c < 128 := by
    unfold bc at h
    simp only [Bool.or_eq_true, Bool.and_eq_true, decide_eq_true_eq, beq_iff_eq] at h
    lia
  have : ∀ c, c < 128 → bc c = true → sp c = false ∧ c ≠ 34 ∧ valc c = true := by decide +kernel
  exact this c hb h
theorem kc_tail {r : List Nat} : ∀ (items : List (Bool × KV)), (∀ c r', tailT items = c :: r' → valc c = false) := by
  intro items c r' e
  cases items with
  | nil => cases e
  | cons x r =>
    obtain ⟨b, p⟩ := x
    cases b <;> (cases e; decide +kernel)
noncomputable def goalR : List (List KV) → List KV → List (Bool × KV) → List (List KV)
  | done, pr, [] => done ++ (if pr = [] then [] else [pr])
  | done, pr, (false, p) :: r => goalR done (pr ++ [p]) r
  | done, pr, (true, p) :: r => goalR (done ++ [pr]) [p] r
section
variable {k v ws : List Nat} {items : List (Bool × KV)}
theorem A_tok (o : OkP (k, v)) (hw : ∀ c ∈ ws, sp c = true) {txt txt1 : List Nat} (ht : txt = ws ++ (k ++ txt1)) (h1 : txt1 = 61 :: (Wr v ++ tailT items)) (hs : txt.length ≤ 100000) :
    Hits 12 (forSearch cTOK (S txt).cps 1 0 (S txt).cps.size false) (fun m => Found m 0 (ws.length + k.length) #[some ws.length, some (ws.length + k.length)] 1 1) ∧
    txt.drop (ws.length + k.length) = txt1 ∧ (⟨(S txt).cps.extract ws.length (ws.length + k.length)⟩ : Str) = S k := by
  refine ⟨tok_hit (text := (S txt).cps) (ws := ws) (u := k) (r := txt1) (by simpa using ht) hw o.kc o.k0 ?_ (by simp; lia), ?_, ?_⟩
  · intro c r' e; rw [h1] at e; cases e; decide +kernel
  · rw [ht, ← List.append_assoc, List.drop_append_of_le_length (by simp)]; simp
  · apply Str.ext'; rw [ht]; simp
theorem A_bare (o : OkP (k, v)) (hb : v.all bc = true) {txt1 : List Nat} (h1 : txt1 = 61 :: (Wr v ++ tailT items)) (hs : txt1.length ≤ 100000) :
    Hits 300000 (forSearch cQUO (S txt1).cps 1 0 (S txt1).cps.size false) Failed ∧
    Hits 16 (forSearch cVAL (S txt1).cps 1 0 (S txt1).cps.size false) (fun m => Found m 0 (1 + v.length) #[some 1, some (1 + v.length)] 1 1) ∧
    txt1.drop (1 + v.length) = tailT items ∧ (⟨(S txt1).cps.extract 1 (1 + v.length)⟩ : Str) = S v := by
  have hW : Wr v = v := by unfold Wr; rw [if_pos hb]
  rw [hW] at h1
  have hall : ∀ c ∈ v, bc c = true := by simpa [List.all_eq_true] using hb
  have hv2 : 2 ≤ v.length := o.v2
  obtain ⟨c, v', rfl⟩ : ∃ c v', v = c :: v' := by cases v with | nil => simp at hv2 | cons c v' => exact ⟨c, v', rfl⟩
  have hc := bc_sp (hall c (.head _))
  refine ⟨?_, ?_, ?_, ?_⟩
  · refine (quo_miss (text := (S txt1).cps) (c := c) (r := v' ++ tailT items) (by simpa using h1) hc.1 hc.2.1 ?_ (by simp; lia)).mono (by simp; lia)
    rw [h1]; simp at hv2 ⊢; lia
  · exact val_hit (text := (S txt1).cps) (u := c :: v') (r := tailT items) (by simpa using h1) (fun x hx => (bc_sp (hall x hx)).2.2) (by simp) (kc_tail (r := []) items) (by simp; lia)
  · rw [h1, Nat.add_comm]; simp
  · apply Str.ext'; rw [h1]; simp
theorem A_quo (o : OkP (k, v)) (hb : ¬ v.all bc = true) {txt1 : List Nat} (h1 : txt1 = 61 :: (Wr v ++ tailT items)) (hs : txt1.length ≤ 100000) :
    Hits 30 (forSearch cQUO (S txt1).cps 1 0 (S txt1).cps.size false) (fun m => Found m 0 (2 + v.length + 1) #[some 2, some (2 + v.length)] 1 1) ∧
    txt1.drop (2 + v.length + 1) = tailT items ∧ (⟨(S txt1).cps.extract 2 (2 + v.length)⟩ : Str) = S v := by
  have hW : Wr v = 34 :: (v ++ [34]) := by unfold Wr; rw [if_neg hb]
  rw [hW] at h1
  have h1' : txt1 = 61 :: 34 :: (v ++ 34 :: tailT items) := by rw [h1]; simp
  refine ⟨quo_hit (text := (S txt1).cps) (u := v) (r := tailT items) (by simpa using h1') o.vq (by simp; lia), ?_, ?_⟩
  · rw [h1', show 2 + v.length + 1 = (v.length + 1) + 2 by lia]; simp
  · apply Str.ext'; rw [h1', show 2 + v.length = v.length + 2 by lia]; simp
end
end Mine
end
section
open PySem PySem.W PyProof.Rows PySem.Builtin.Re PySem.Builtin
set_option maxRecDepth 100000
set_option Elab.async false
namespace Mine
section
variable {w : World} {A : Around} {E : Value → Shared → Prop} {s : Shared} {h₀ : Heap} {L : Addr} {m : Str → Option Value} {news : List (Addr × Obj)}
theorem up_seq {h : Heap} {l : Addr} {its : Array Value} {n : Nat} (v : Value) (e : h.get? l = some (lstO its n)) :
    (h.update l (Obj.mapSeq (·.push v))).get? l = some (lstO (its.push v) (n + 1)) ∧ Heap.SameBut l h (h.update l (Obj.mapSeq (·.push v))) :=
  ⟨by rw [Heap.get?_update_self (o := lstO its n) (Obj.mapSeq (·.push v)) e rfl]; simp [Obj.mapSeq], Heap.SameBut.update ..⟩
theorem subloop_one {p : Addr} {code : Array Nat} {gr : Nat} {x y : Str} {t t0 : Tok} {l : Addr} {b b2 e : Nat} {mk : Array (Option Nat)} {lm li : Int} {Q : Value → Shared → Prop} {A : Around}
    (X : (KK w).In h₀) (F : Fr h₀ L s.heap m) (N : News h₀ L s.heap news) (pk : peek (KK w) ⟨pw, w.params⟩ (reWholeTarget (.ref p) (.str x t)) = some { pattern := .ref p, string := .str x t, code, text := x.cps, kind := 0, groups := gr, pos := 0, lim := x.cps.size })
    (hl : (l, lstO #[] 0) ∈ news) (off : ∀ q ∈ news, ∀ o, q = (l, o) → o = lstO #[] 0) (hx : x.cps.size ≤ 100000) (he : e < x.cps.size) (hy : (⟨x.cps.extract e x.cps.size⟩ : Str) = y)
    (h1 : Hits b (Sre.forSearch code x.cps gr 0 x.cps.size false) fun mm => Found mm 0 e mk lm li) (hb : b ≤ 2 ^ 40)
    (h2 : ∀ ma, Hits b2 (Sre.forSearch code x.cps gr e x.cps.size ma) Failed) (hb2 : b2 ≤ 2 ^ 40)
    (hq : ∀ t1 t2 T h' tk', Fr h₀ L h' m → (∀ q ∈ news, q.1 ≠ l → h'.get? q.1 = some q.2 ∧ q.1 < T) → T ≠ l → L ≠ T → h₀.get? T = none → h'.get? T = some (tupO [.str y t1, .int 1 t2]) → Q (.ref T) { s with heap := h', toks := tk' }) :
    codeAny (model pw w) A (.builtin "re.Pattern.sub.loop" ⟨subArgs p x t (.str (S []) t0) 0 0 0 0 false l true, []⟩) (fun r s'' => ∃ v, r = .ok (.ret v) ∧ Q v s'') s := by
  have keep := F.keep
  have hl0 := N.get hl
  have hlF : h₀.get? l = none := N.fresh hl
  have hLl : l ≠ L := (N _ hl).2.1
  refine codeAny_builtin entry_subloop ?_
  unfold Builtin.«re.Pattern.sub.loop»
  refine wpAny_bind (Looks.of_peek (M := model pw w) X pk _ _ _ s keep ?_)
  show wpAny _ _ (reLiteralCannotBeTurned _ >>= _) _ _ _
  refine wpAny_bind (wpAny_bind (m := asStr? (.str (S []) t0)) (wpAny_pure (wpAny_pure ?_)))
  show wpAny _ _ (reNextFound _ _ _ >>= _) _ _ _
  refine wpAny_bind (wp_run h1 hb fun m' f => .inl ⟨f.out, ?_⟩)
  show wpAny _ _ (if 0 < m'.start then _ else _) _ _ _
  rw [f.start, if_neg (by decide)]
  show wpAny _ _ (updateSeq l _ >>= _) _ _ _
  refine wpAny_bind (wpAny_updateSeq hl0 rfl ?_ (by show 0 ≤ sizeLine; decide) (by show (1 : Nat) ≤ sizeLine + 1; decide))
  have z1 := up_seq (.str (S []) t0) hl0
  have F1 := fr_sameBut F hlF hLl z1.2
  generalize s.heap.update l (Obj.mapSeq (·.push (.str (S []) t0))) = H1 at z1 F1 ⊢
  rw [f.handed]
  refine wpAny_pure ⟨plainId_quiet (by decide +kernel) _, ?_⟩
  refine codeAny_builtin entry_subloop ?_
  unfold Builtin.«re.Pattern.sub.loop»
  refine wpAny_bind (Looks.of_peek (M := model pw w) X pk _ _ _ { s with heap := H1 } F1.keep ?_)
  show wpAny _ _ (reLiteralCannotBeTurned _ >>= _) _ _ _
  refine wpAny_bind (wpAny_bind (m := asStr? (.str (S []) t0)) (wpAny_pure (wpAny_pure ?_)))
  show wpAny _ _ (reNextFound _ _ _ >>= _) _ _ _
  refine wpAny_bind (wp_run (h2 _) hb2 fun m2 f2 => .inr ⟨f2, ?_⟩)
  show wpAny _ _ (if e < x.cps.size then _ else _) _ _ _
  rw [if_pos he]
  show wpAny _ _ (mkStr ⟨x.cps.extract e x.cps.size⟩ >>= _) _ _ _
  have hyl : y.cps.size ≤ 100000 := by rw [← hy]; show (x.cps.extract e x.cps.size).size ≤ _; simp; lia
  rw [hy]
  refine wpAny_bind (wpAny_mkStr ?_ (by show y.cps.size ≤ _; rw [sizeLine_eq]; lia))
  refine wpAny_bind (wpAny_updateSeq z1.1 rfl ?_ (by show 1 ≤ sizeLine; decide) (by show (2 : Nat) ≤ sizeLine + 1; decide))
  have z2 := up_seq (.str y s.toks) z1.1
  dsimp only
  have F2 := fr_sameBut F1 hlF hLl z2.2
  generalize H1.update l (Obj.mapSeq (·.push (.str y s.toks))) = H2 at z2 F2 ⊢
  refine wpAny_bind (wpAny_mkStr ?_ (by show (x.cps.extract 0 0).size ≤ sizeLine; simp))
  refine wpAny_bind (wp_seqItems z2.1 ?_)
  show wpAny _ _ (call (.builtin "str.join") [.str ⟨x.cps.extract 0 0⟩ _, .ref l] >>= _) _ _ _
  refine wpAny_bind ?_
  refine SC.join (l := [(S [], t0), (y, s.toks)]) (texts := [S [], y]) ⟨_, z2.1, rfl, 2, rfl⟩ rfl ?_ fun t' k => ?_
  · show (!decide (0 + (S []).cps.size + (x.cps.extract 0 0).size + y.cps.size + (x.cps.extract 0 0).size > sizeLine)) = true
    rw [sizeLine_eq, Bool.not_eq_true', decide_eq_false_iff_not]
    simp; lia
  · have ej : Txt.join (⟨x.cps.extract 0 0⟩ : Str) [S [], y] = y := by
      apply Str.ext'
      show (((#[] : Array Nat) ++ x.cps.extract 0 0) ++ y.cps) = y.cps
      simp
    rw [ej]
    have N2 : News h₀ L H2 [(l, lstO #[.str (S []) t0, .str y s.toks] 2)] := fun q hq => by
      rw [List.mem_singleton.mp hq]; exact ⟨z2.1, hLl, hlF⟩
    have nk : ∀ q ∈ news, q.1 ≠ l → H2.get? q.1 = some q.2 := fun q hq ne => (z2.2.2 q.1 ne).trans ((z1.2.2 q.1 ne).trans (N q hq).1)
    refine wpAny_bind (wpAny_bind (wpAny_mkInt (wpAny_newTuple (wpAny_pure ⟨_, rfl, ?_⟩) (by size_fits))))
    have N3 := N2.push F2 (tupO [.str y t', .int 1 k]) rfl
    refine hq t' k H2.objs.size _ _ (F2.push _) (fun q hq ne => ⟨Heap.get?_push_of_some _ (nk q hq ne), Heap.lt_size (nk q hq ne)⟩) (Nat.ne_of_gt (Heap.lt_size z2.1)) (N3 _ (.head _)).2.1.symm (N3 _ (.head _)).2.2 (N3 _ (.head _)).1
theorem subn43 {u r : List Nat} {t t0 : Tok} {Q : Value → Shared → Prop}
    (F : Fr h₀ L s.heap m) (N : News h₀ L s.heap news) (X : (KK w).In h₀)
    (hu0 : u ≠ []) (hr0 : r ≠ []) (hu : ∀ c ∈ u, junk c = true) (hr : ∀ c r', r = c :: r' → junk c = false) (hx : (u ++ r).length ≤ 100000)
    (hq : ∀ t1 t2 T h' tk', Fr h₀ L h' m → News h₀ L h' ((T, tupO [.str (S r) t1, .int 1 t2]) :: news) → (∀ q ∈ news, q.1 < T) → Q (.ref T) { s with heap := h', toks := tk' }) :
    wpAny (model pw w) A (call (.builtin "re.Pattern.subn") [.ref 43, .str (S []) t0, .str (S (u ++ r)) t]) Q E s := by
  refine call_again slot_re_Pattern_subn (pat_is X F.keep (by kernel_rfl)).1 entry_re_Pattern_subn (args_re_Pattern_subn_3 _ _ _) ?_
  refine go2 20 [(43, .old (oK w 43)), (42, .old (oK w 42))] (js := [lstO #[] 0]) (tk := s.toks) (r := .again (.builtin "re.Pattern.sub.loop" ⟨subArgs 43 (S (u ++ r)) t (.str (S []) t0) 0 0 0 0 false s.heap.objs.size true, []⟩)) (by kernel_rfl) (fun y hy => ?_) ⟨_, rfl, plainId_quiet (by decide +kernel) _, ?_⟩
  · simp only [List.mem_cons, List.not_mem_nil, or_false] at hy
    rcases hy with rfl | rfl
    · exact pk_in X F.keep (by kernel_rfl)
    · exact pk_in X F.keep (by kernel_rfl)
  · have hxs : (S (u ++ r)).cps.size ≤ 100000 := by simpa using hx
    have hul : 0 < u.length := List.length_pos_iff.mpr hu0
    have hrl : 0 < r.length := List.length_pos_iff.mpr hr0
    have hlt : ∀ {a o}, s.heap.get? a = some o → a ≠ s.heap.objs.size := fun e => Nat.ne_of_lt (Heap.lt_size e)
    have h1 := tw7_hit (text := (S (u ++ r)).cps) (u := u) (r := r) (by simp) hu hr (by lia)
    have h2 := fun ma => tw7_miss (text := (S (u ++ r)).cps) (p := u.length) (ma := ma) hul (by simp)
    have he : u.length < (S (u ++ r)).cps.size := by simp; lia
    have hy : (⟨(S (u ++ r)).cps.extract u.length (S (u ++ r)).cps.size⟩ : Str) = S r := by apply Str.ext'; simp
    have pk := pk_whole43 (w := w) (S (u ++ r)) t
    generalize S (u ++ r) = x at hxs h1 h2 he hy pk ⊢
    refine subloop_one (s := { s with heap := s.heap.push (lstO #[] 0) }) (news := (s.heap.objs.size, lstO #[] 0) :: news) X (F.push _) (N.push F _ rfl) pk (.head _) (fun q hq o e => ?_) hxs he hy h1 (by decide) h2 (by lia) ?_
    · rcases List.mem_cons.mp hq with rfl | hq
      · cases e; rfl
      · subst e; exact absurd rfl (hlt (N _ hq).1)
    · intro t1 t2 T h' tk' F' nk hT hLT hfr hg
      refine hq t1 t2 T h' tk' F' (fun q hq' => ?_) fun q hq' => (nk q (.tail _ hq') (hlt (N q hq').1)).2
      rcases List.mem_cons.mp hq' with rfl | hq'
      · exact ⟨hg, hLT.symm, hfr⟩
      · exact ⟨(nk q (.tail _ hq') (hlt (N q hq').1)).1, (N q hq').2⟩
end
end Mine
end
section
open PySem PySem.W PySem.W.X PyProof.Rows PySem.Sre
set_option maxRecDepth 100000
set_option Elab.async false
namespace Mine
section
variable {w : World} {A : Around} {E : Value → Shared → Prop} {s : Shared} {h₀ : Heap} {L : Addr} {m : Str → Option Value} {news : List (Addr × Obj)}
theorem lstrip_id {c : Nat} {r : List Nat} (h : sp c = false) : Txt.lstrip (S (c :: r)) = S (c :: r) := by
  unfold Txt.lstrip
  rw [PyProof.Rows.stripBy_eq]
  have e : stripLo Unicode.isSpace true (S (c :: r)) = 0 := by
    show ((c :: r).takeWhile Unicode.isSpace).length = 0
    rw [List.takeWhile_cons, if_neg (by show ¬ (sp c = true); rw [h]; decide)]; rfl
  rw [e]
  exact StrLaws.sub_whole _
theorem rstrip_id {l : List Nat} (h : ∀ c ∈ l, sp c = false) : Txt.rstrip (S l) = S l := by
  unfold Txt.rstrip
  rw [PyProof.Rows.stripBy_eq]
  have e : stripHi Unicode.isSpace true (S l) (stripLo Unicode.isSpace false (S l)) = (S l).length := by
    show (S l).length - ((l.drop 0).reverse.takeWhile Unicode.isSpace).length = (S l).length
    rw [List.drop_zero]
    have : l.reverse.takeWhile Unicode.isSpace = [] := by
      cases hr : l.reverse with
      | nil => rfl
      | cons x xs =>
        have hx : x ∈ l := List.mem_reverse.mp (by rw [hr]; exact .head _)
        rw [List.takeWhile_cons, if_neg (by show ¬ (sp x = true); rw [h x hx]; decide)]
    rw [this]; rfl
  rw [e]
  exact StrLaws.sub_whole _
theorem starts_comma {c : Nat} {r : List Nat} : Txt.startswith (S (c :: r)) (Str.ofString ",") = (c == 44) := by
  unfold Txt.startswith
  rw [StrLaws.subAt_eq]
  have e : Str.ofString "," = S [44] := by decide +kernel
  rw [e]
  simp [S_len]
theorem isPat55 : ((KK w).lookup 55).any isPat = true := by kernel_rfl
theorem isPat60 : ((KK w).lookup 60).any isPat = true := by kernel_rfl
theorem isPat65 : ((KK w).lookup 65).any isPat = true := by kernel_rfl
theorem isPat70 : ((KK w).lookup 70).any isPat = true := by kernel_rfl
theorem isPat43 : ((KK w).lookup 43).any isPat = true := by kernel_rfl
theorem isPat82 : ((KK w).lookup 82).any isPat = true := by kernel_rfl
theorem isPat87 : ((KK w).lookup 87).any isPat = true := by kernel_rfl
theorem isPat187 : ((KK w).lookup 187).any isPat = true := by kernel_rfl
variable {g : Heap} {RA l it : Nat} {ll oit : Obj} {total : List (List KV)}
theorem B_true {txt k v : List Nat} {items : List (Bool × KV)} (ht : txt = tailT ((true, (k, v)) :: items)) (hlen : txt.length ≤ 100000) :
    Hits 300000 (forSearch cTOK (S txt).cps 1 0 (S txt).cps.size false) Failed ∧ Txt.lstrip (S txt) = S txt ∧ Txt.startswith (S txt) (Str.ofString ",") = true ∧ Txt.slice (S txt) (some 1) none = S ([32] ++ (kvT (k, v) ++ tailT items)) ∧ ([32] ++ (kvT (k, v) ++ tailT items)).length + 1 = txt.length := by
  have h : txt = 44 :: ([32] ++ (kvT (k, v) ++ tailT items)) := ht
  refine ⟨(tok_miss (text := (S txt).cps) (by rw [h]) (by decide +kernel) (by decide +kernel) (by simp; lia)).mono (by simp; lia), by rw [h]; exact lstrip_id (by decide +kernel), by rw [h]; exact starts_comma, ?_, by rw [h]; rfl⟩
  have := slice_from txt 1 (by rw [h]; simp)
  rw [show (some ((1 : Nat) : Int)) = some 1 from rfl] at this
  rw [this, h]; rfl
theorem B_false {txt k v : List Nat} {items : List (Bool × KV)} (ht : txt = tailT ((false, (k, v)) :: items)) (hok : OkP (k, v)) (hlen : txt.length ≤ 100000) :
    Hits 300000 (forSearch cTOK (S txt).cps 1 0 (S txt).cps.size false) Failed ∧ Txt.lstrip (S txt) = S txt ∧ Txt.startswith (S txt) (Str.ofString ",") = false ∧ txt = [59, 32] ++ (kvT (k, v) ++ tailT items) ∧ (∀ c r', kvT (k, v) ++ tailT items = c :: r' → junk c = false) := by
  have h : txt = 59 :: ([32] ++ (kvT (k, v) ++ tailT items)) := ht
  refine ⟨(tok_miss (text := (S txt).cps) (by rw [h]) (by decide +kernel) (by decide +kernel) (by simp; lia)).mono (by simp; lia), by rw [h]; exact lstrip_id (by decide +kernel), by rw [h]; exact starts_comma, h, ?_⟩
  intro c r' e
  have hk0 := hok.k0
  have hkc := hok.kc
  cases k with
  | nil => exact absurd rfl hk0
  | cons x xs =>
    have : x = c := by simp [kvT] at e; exact e.1
    subst this
    have := hkc x (.head _)
    unfold tokc at this
    unfold junk
    revert this
    cases h1 : (x == 44) <;> cases h2 : (x == 59) <;> cases h3 : (x == 61) <;> cases h4 : sp x <;> simp
end
end Mine
end
section
open PySem PySem.W PySem.W.X PyProof.Rows PySem.Sre PySem.Builtin.Re
set_option maxRecDepth 100000
set_option Elab.async false
namespace Mine
noncomputable abbrev Mat (v : List Nat) : Prop := Hits 10000 (forMatch cJT (S v).cps 0 0 (S v).cps.size true false) fun m => m.outcome = some .matched
noncomputable abbrev NoMat (v : List Nat) : Prop := Hits 10000 (forMatch cJT (S v).cps 0 0 (S v).cps.size true false) Failed
noncomputable abbrev JeOk (v : List Nat) : Prop := Hits 10000 (forSearch cJE (S v).cps 1 0 (S v).cps.size false) Failed
structure OkV (v : List Nat) : Prop where
  one : 1 ≤ v.length
  len : v.length ≤ 100
  jt : v.all bc = true → Mat v
  jn : ¬ v.all bc = true → NoMat v ∧ JeOk v
section
variable {w : World} {A : Around} {E : Value → Shared → Prop} {s : Shared} {h₀ : Heap} {L : Addr} {m : Str → Option Value} {news : List (Addr × Obj)}
theorem fm_hit {v : List Nat} {t : Tok} {Q : Value → Shared → Prop} (F : Fr h₀ L s.heap m) (N : News h₀ L s.heap news) (X : (KK w).In h₀) (h : Mat v) (hx : v.length ≤ 100000)
    (hq : ∀ h' T Mt oT vs, Fr h₀ L h' m → News h₀ L h' ((Mt, { cls := .type "re.Match", data := .fields vs }) :: (T, oT) :: news) → (∀ q ∈ news, q.1 < T) → T < Mt → Q (.ref Mt) { s with heap := h' }) :
    wpAny (model pw w) A (call (.builtin "re.Pattern.fullmatch") [.ref 82, .str (S v) t]) Q E s := by
  refine wpAny_call_entry slot_re_Pattern_fullmatch (pat_is X F.keep isPat82).1 entry_re_Pattern_fullmatch ?_ (args_re_Pattern_fullmatch_2 _ _)
  unfold Builtin.«re.Pattern.fullmatch»
  have hx' : (S v).cps.size < 2 ^ 32 := by simp; lia
  have pk := pk_jt (w := w) (S v) t
  unfold Mat at h
  generalize S v = x at h hx' pk ⊢
  refine wpAny_bind (Looks.of_peek (M := model pw w) X pk A.in1 _ _ s F.keep ?_)
  rw [tgt_pos, tgt_lim hx']
  unfold reAnswer
  refine wpAny_bind (wp_run h (by decide) fun m' f => .inl ⟨f, ?_⟩)
  refine wpAny_bind ?_
  unfold reNewMatch
  show wpAny _ _ (do let tt ← newTuple (rawInt m'.start :: rawInt m'.handed :: []); newFields "re.Match" [.str x t, .ref 82, rawInt (tgt x t 82 cJT 0).pos, rawInt (tgt x t 82 cJT 0).lim, rawInt m'.lastindex, tt]) _ E s
  have P := fr_tupmat F N (tupO [rawInt m'.start, rawInt m'.handed]) { cls := .type "re.Match", data := .fields #[.str x t, .ref 82, rawInt (tgt x t 82 cJT 0).pos, rawInt (tgt x t 82 cJT 0).lim, rawInt m'.lastindex, .ref s.heap.objs.size] } rfl rfl
  refine wpAny_bind (wpAny_newObj_type ?_ (by show (2 : Nat) ≤ sizeLine; decide))
  refine wpAny_newObj_type ?_ (by show (6 : Nat) ≤ sizeLine + 2; decide)
  have := hq _ s.heap.objs.size (s.heap.objs.size + 1) _ _ P.1 P.2 (fun q hq => Heap.lt_size (N q hq).1) (Nat.lt_succ_self _)
  rw [← Heap.size_push (o := tupO [rawInt m'.start, rawInt m'.handed])] at this
  exact wpAny_pure ⟨_, rfl, this⟩
theorem fm_miss {v : List Nat} {t : Tok} {Q : Value → Shared → Prop} (F : Fr h₀ L s.heap m) (X : (KK w).In h₀) (h : NoMat v) (hx : v.length ≤ 100000) (hq : Q .none s) :
    wpAny (model pw w) A (call (.builtin "re.Pattern.fullmatch") [.ref 82, .str (S v) t]) Q E s := by
  refine wpAny_call_entry slot_re_Pattern_fullmatch (pat_is X F.keep isPat82).1 entry_re_Pattern_fullmatch ?_ (args_re_Pattern_fullmatch_2 _ _)
  unfold Builtin.«re.Pattern.fullmatch»
  have hx' : (S v).cps.size < 2 ^ 32 := by simp; lia
  have pk := pk_jt (w := w) (S v) t
  unfold NoMat at h
  generalize S v = x at h hx' pk ⊢
  refine wpAny_bind (Looks.of_peek (M := model pw w) X pk A.in1 _ _ s F.keep ?_)
  rw [tgt_pos, tgt_lim hx']
  unfold reAnswer
  exact wpAny_bind (wp_run h (by decide) fun m' f => .inr ⟨f, wpAny_pure ⟨_, rfl, hq⟩⟩)
theorem mat_true2 {Mt : Addr} {vs : Array Value} {Q : Bool → Shared → Prop} (N : News h₀ L s.heap news) (hM : (Mt, { cls := .type "re.Match", data := .fields vs }) ∈ news) (hq : Q true s) :
    wpAny (model pw w) A (truthy (.ref Mt)) Q E s :=
  go2 20 (List.replicate 2 (Mt, .old { cls := .type "re.Match", data := .fields vs })) (tk := s.toks) (js := []) (r := true) (by kernel_rfl) (reps_ok (N.get hM)) hq
noncomputable abbrev txV (ts : List (Str × Tok)) : Array Value := (strValues ts).toArray
theorem foldl_le (c k : Nat) : ∀ (ts : List Str) (a : Nat), (∀ x ∈ ts, x.length ≤ k) → ts.foldl (fun n x => n + x.length + c) a ≤ a + ts.length * (k + c)
  | [], a, _ => by simp
  | x :: r, a, h => by
    rw [List.foldl_cons]
    have := foldl_le c k r (a + x.length + c) fun y hy => h y (.tail _ hy)
    have hx := h x (.head _)
    rw [List.length_cons, Nat.add_mul]
    lia
theorem joinOk_of {sep : Str} {texts : List Str} {k : Nat} (h : ∀ x ∈ texts, x.length ≤ k) (hs : sep.length ≤ 2) (hz : texts.length * (k + 2) ≤ 1000000) : JoinOk sep texts = true := by
  unfold JoinOk PySem.Builtin.Str.tooLong
  rw [Bool.not_eq_true', decide_eq_false_iff_not, sizeLine_eq, List.foldl_toArray]
  have a := foldl_le sep.length k texts 0 h
  have b : texts.length * (k + sep.length) ≤ texts.length * (k + 2) := Nat.mul_le_mul_left _ (by lia)
  lia
theorem join_eq {l : Addr} {n : Nat} {sep : Str} {u : Tok} {ts : List (Str × Tok)} {k : Nat} {Q : Value → Shared → Prop} (hl : s.heap.get? l = some (lstO (txV ts) n)) (h : ∀ x ∈ ts.map (·.1), x.length ≤ k) (hs : sep.length ≤ 2) (hz : ts.length * (k + 2) ≤ 1000000)
    (hq : ∀ t' k, Q (.str (Txt.join sep (ts.map (·.1))) t') { s with toks := k }) : wpAny (model pw w) A (call (.builtin "str.join") [.str sep u, .ref l]) Q E s :=
  SC.join (l := ts) (texts := ts.map (·.1)) ⟨_, hl, rfl, n, rfl⟩ rfl (joinOk_of h hs (by simpa using hz)) hq
end
end Mine
end
section
open PySem PySem.W PySem.W.X PyProof.Rows PySem.Sre
set_option maxRecDepth 100000
set_option Elab.async false
namespace Mine
section
variable {prog : Program} {w : World} {A : Around} {E : Value → Shared → Prop} {s : Shared} {g : Heap} {L : Addr} {m : Str → Option Value} {news : List (Addr × Obj)}
theorem S_q : Str.ofString "\"" = S [34] := by decide +kernel
end
end Mine
end
section
open PySem PySem.W PySem.W.X PyProof.Rows PyProof.Rows.LCg
set_option maxRecDepth 100000
set_option Elab.async false
namespace Mine
noncomputable abbrev tests (ifs : List Expr) (env : Env) : Sem Bool := forIn ifs true fun c r => if r = true then do let ok ← isTrue c env (eval c env); pure (ForInStep.yield ok) else pure (ForInStep.yield r)
structure Itr (prog : Program) (w : World) (A : Around) (target : Expr) (I : Addr) (as : List Addr) (fx : List (Addr × Obj)) (n : Nat) (P : Nat → Value → Heap → Prop) (St : Nat → Heap → Prop) : Prop where
  turns : ∃ fp wr Md, KTurns prog w A target I fp wr n P Md St ∧ (∀ b ∈ fp, b ∈ as ∨ b ∈ fx.map (·.1)) ∧ ∀ b ∈ wr, b ∈ as
  own : ∀ i h, St i h → ∀ b ∈ as, ∃ o, h.get? b = some o
  self : ∀ i (s : Shared) (Q : Value → Shared → Prop) (E : Value → Shared → Prop), St i s.heap → Q (.ref I) s → wpAny (model prog w) A (pyIter (.ref I)) Q E s
noncomputable def CpE (g : Heap) (L : Addr) (m : Str → Option Value) (s : Shared) (ow : List (Addr × Obj)) (as : List Addr) (C D : Addr) (yl : List Value) (J : List (Addr × Obj) → Prop) (s' : Shared) : Prop :=
  ∃ oC m₂ led, Fr g L s'.heap m ∧ News g L s'.heap (ow ++ (C, oC) :: (D, lst yl) :: led) ∧ NsObj oC m₂ ∧ (∀ p ∈ led, p.1 ∉ as ∧ p.1 ≠ C ∧ p.1 ≠ D) ∧ J led ∧ Rest s s'
section
variable {prog : Program} {w : World} {A : Around} {E : Value → Shared → Prop} {s : Shared} {g h h' : Heap} {L : Addr} {m : Str → Option Value} {news : List (Addr × Obj)} {env : Env} {as : List Addr}
theorem map_fst_of {as : List Addr} {h : Heap} (x : ∀ b ∈ as, ∃ o, h.get? b = some o) : ∃ ow : List (Addr × Obj), ow.map (·.1) = as ∧ ∀ p ∈ ow, h.get? p.1 = some p.2 := by
  induction as with
  | nil => exact ⟨[], rfl, fun _ h => nomatch h⟩
  | cons a r ih =>
    obtain ⟨o, e⟩ := x a (.head _)
    obtain ⟨ow, h1, h2⟩ := ih fun b hb => x b (.tail _ hb)
    exact ⟨(a, o) :: ow, by rw [List.map_cons, h1], List.forall_mem_cons.mpr ⟨e, h2⟩⟩
theorem fr_off (F : Fr g L h m) (has : ∀ b ∈ as, g.get? b = none ∧ b ≠ L) (k : ∀ b o, b ∉ as → h.get? b = some o → h'.get? b = some o) : Fr g L h' m :=
  ⟨F.ns.at' fun o => k L o fun q => (has L q).2 rfl, fun b o e => k b o (fun q => nomatch (has b q).1 ▸ e) (F.keep b o e), F.above⟩
theorem stay_off (N : News g L h news) (off : ∀ p ∈ news, p.1 ∉ as) (k : ∀ b o, b ∉ as → h.get? b = some o → h'.get? b = some o) : News g L h' news :=
  fun p hp => ⟨k _ _ (off p hp) (N p hp).1, (N p hp).2⟩
theorem Itr.stays {target : Expr} {I : Addr} {fx ow : List (Addr × Obj)} {n i : Nat} {P : Nat → Value → Heap → Prop} {St : Nat → Heap → Prop} (T : Itr prog w A target I as fx n P St) (st : St i h) (how : ow.map (·.1) = as)
    (h1 : ∀ p ∈ ow ++ fx, h.get? p.1 = some p.2) (h2 : ∀ p ∈ ow ++ fx, h'.get? p.1 = some p.2) : St i h' := by
  obtain ⟨fp, wr, Md, W, hfp, _⟩ := T.turns
  refine W.frame _ _ _ st fun b hb o e => ?_
  obtain ⟨p, hp, rfl⟩ : ∃ p ∈ ow ++ fx, p.1 = b := by
    rcases hfp b hb with q | q
    · obtain ⟨p, hp, e⟩ := List.mem_map.mp (how ▸ q)
      exact ⟨p, List.mem_append_left _ hp, e⟩
    · obtain ⟨p, hp, e⟩ := List.mem_map.mp q
      exact ⟨p, List.mem_append_right _ hp, e⟩
  rw [← e, h1 p hp]; exact h2 p hp
end
structure CpH (prog : Program) (w : World) (A : Around) (g : Heap) (L : Addr) (m : Str → Option Value) (env : Env) (s₂ : Shared) (elt target : Expr) (ifs : List Expr) (scope : Scope) (cl : List (Str × Addr)) (I : Addr) (as : List Addr) (fx : List (Addr × Obj)) (n : Nat) (P : Nat → Value → Heap → Prop) (St : Nat → Heap → Prop)
    (J : Nat → List Value → List (Addr × Obj) → Prop) (B : Nat → List (Addr × Obj) → List (Str × Value) → Prop) : Prop where
  T : Itr prog w A target I as fx n P St
  size : n ≤ sizeLine
  far : ∀ b ∈ as, g.get? b = none ∧ b ≠ L
  keep : ∀ i ys led, J i ys led → ∀ p ∈ fx, p ∈ led
  len : ∀ i ys led, J i ys led → ys.length ≤ i
  asg : ∀ i v ys led h C m' tk, i < n → P i v h → J i ys led → News g L h led → h.Ns C m' → ∃ bs mx, B i led bs ∧ (∀ p ∈ bs, mx p.1 = some p.2) ∧ ∀ (Q' : Unit → Shared → Prop),
    (∀ h' tk', h'.Ns C mx → (∀ c o, c ≠ C → h.get? c = some o → h'.get? c = some o) → Q' () { s₂ with heap := h', toks := tk' }) → wpAny (model prog w) A (assign target (compEnvC scope cl C env) v) Q' NoE { s₂ with heap := h, toks := tk }
  turn : ∀ i bs ys led ow C oC D m₂ h tk, i < n → B i led bs → J i ys led → ow.map (·.1) = as → NsObj oC m₂ → (∀ p ∈ bs, m₂ p.1 = some p.2) → Fr g L h m → News g L h (ow ++ (C, oC) :: (D, lst ys) :: led) →
    (∀ p ∈ led, p.1 ∉ as ∧ p.1 ≠ C ∧ p.1 ≠ D) → C ∉ as → D ∉ as → C ≠ D →
    wpAny (model prog w) A (tests ifs (compEnvC scope cl C env)) (fun ok s₃ => if ok = true then wpAny (model prog w) A (eval elt (compEnvC scope cl C env)) (fun y s₄ => CpE g L m s₂ ow as C D ys (J (i + 1) (ys ++ [y])) s₄) NoE s₃
      else CpE g L m s₂ ow as C D ys (J (i + 1) ys) s₃) NoE { s₂ with heap := h, toks := tk }
section
variable {prog : Program} {w : World} {A : Around} {E : Value → Shared → Prop} {g : Heap} {L : Addr} {m : Str → Option Value} {env : Env} {s₂ : Shared} {elt target iter : Expr} {ifs : List Expr} {scope : Scope} {cl : List (Str × Addr)} {pos : Pos} {I : Addr} {as : List Addr} {fx news : List (Addr × Obj)} {n : Nat} {P : Nat → Value → Heap → Prop} {St : Nat → Heap → Prop}
  {J : Nat → List Value → List (Addr × Obj) → Prop} {B : Nat → List (Addr × Obj) → List (Str × Value) → Prop}
theorem CpH.loop {R : Result → Shared → Prop} {C D : Addr} (H : CpH prog w A g L m env s₂ elt target ifs scope cl I as fx n P St J B) (hCa : C ∉ as) (hDa : D ∉ as) (hCD : C ≠ D)
    (fin : ∀ ys s', CpE g L m s₂ [] as C D ys (J n ys) s' → R (.ok .next) s') {ys : List Value} {s' : Shared} (st : St 0 s'.heap) (e : CpE g L m s₂ [] as C D ys (J 0 ys) s') :
    codeAny (model prog w) A (.compLoop (.ListComp elt [⟨target, iter, ifs, 0⟩] scope pos) 0 (.ref I) (.ref D) (compEnvC scope cl C env)) R s' := by
  refine codeAny_loop rfl (fun k s' => ∃ i ys, k = n - i ∧ i ≤ n ∧ St i s'.heap ∧ CpE g L m s₂ [] as C D ys (J i ys) s') (fun k s' hI => ?_) n ⟨0, ys, rfl, Nat.zero_le _, st, e⟩
  obtain ⟨i, ys, rfl, hi, st, oC, m₂, led, F, N, hoC, off, hJ, h, tk, rfl⟩ := hI
  obtain ⟨fp, wr, Md, W, hfp, hwr⟩ := H.T.turns
  have offA : ∀ p ∈ (C, oC) :: (D, lst ys) :: led, p.1 ∉ as := List.forall_mem_cons.mpr ⟨hCa, List.forall_mem_cons.mpr ⟨hDa, fun p hp => (off p hp).1⟩⟩
  show wpAny _ A ((compTurn (.ListComp elt [⟨target, iter, ifs, 0⟩] scope pos) 0 (.ref I) (.ref D) (compEnvC scope cl C env)).onRaise fun x => do noteFrame x (compEnvC scope cl C env); theTreesLotGoes x) _ _ _
  rw [compTurn_list]
  refine wpAny_noted (wpAny_bind (wpAny_standAt (wpAny_bind ?_)))
  rcases Nat.lt_or_eq_of_le hi with hlt | rfl
  · refine W.item i _ _ _ hlt st fun v h₂ tk₂ md k2 => wpAny_bind (W.go i v _ _ _ md fun h₃ hP st₃ k3 => ?_)
    have k : ∀ b o, b ∉ as → h.get? b = some o → h₃.get? b = some o := fun b o hb e => k3 b o (fun q => hb (hwr b q)) (k2 b o (fun q => hb (hwr b q)) e)
    have N₃ := stay_off N offA k
    have F₃ := fr_off F H.far k
    obtain ⟨ow, how, hown⟩ := map_fst_of (H.T.own _ _ st₃)
    obtain ⟨bs, mx, hB, hbs, asg⟩ := H.asg i v ys led h₃ C m₂ tk₂ hlt hP hJ (fun p hp => N₃ p (.tail _ (.tail _ hp))) (hoC.ns (N₃ _ (.head _)).1)
    have hC := (N₃ _ (.head _)).2
    have hinF : ∀ p ∈ fx, p ∈ led := H.keep _ _ _ hJ
    refine wpAny_bind (wpAny_mono (asg _ fun h₄ tk₄ hn₄ k4 => ?_) (fun _ _ q => q) fun _ _ f => f.elim)
    have k4' : ∀ b o, b ∉ [C] → h₃.get? b = some o → h₄.get? b = some o := fun b o hb => k4 b o fun q => hb (q ▸ .head _)
    have owC : ∀ p ∈ ow, p.1 ≠ C := fun p hp q => hCa (q ▸ how ▸ List.mem_map_of_mem hp)
    have st₄ : St (i + 1) h₄ := H.T.stays st₃ how (List.forall_mem_append.mpr ⟨hown, fun p hp => (N₃ p (.tail _ (.tail _ (hinF p hp)))).1⟩)
      (List.forall_mem_append.mpr ⟨fun p hp => k4 _ _ (owC p hp) (hown p hp), fun p hp => k4 _ _ (off p (hinF p hp)).2.1 (N₃ p (.tail _ (.tail _ (hinF p hp)))).1⟩)
    obtain ⟨oC', eC, hoC'⟩ := ns_obj hn₄
    have N₄ : News g L h₄ (ow ++ (C, oC') :: (D, lst ys) :: led) := List.forall_mem_append.mpr ⟨fun p hp => ⟨k4 _ _ (owC p hp) (hown p hp), (H.far p.1 (how ▸ List.mem_map_of_mem hp)).symm⟩,
      List.forall_mem_cons.mpr ⟨⟨eC, hC⟩, stay_off (fun p hp => N₃ p (.tail _ hp)) (as := [C]) (List.forall_mem_cons.mpr ⟨fun q => hCD (List.mem_singleton.mp q).symm, fun p hp q => (off p hp).2.1 (List.mem_singleton.mp q)⟩) k4'⟩⟩
    have F₄ := fr_off F₃ (as := [C]) (fun b hb => by rw [List.mem_singleton.mp hb]; exact hC.symm) k4'
    -- back at the loop's word
    have back : ∀ (ys' : List Value) (led' : List (Addr × Obj)) (h₅ : Heap), J (i + 1) ys' led' → (∀ p ∈ ow ++ led', h₅.get? p.1 = some p.2) → St (i + 1) h₅ := fun ys' led' h₅ hJ' N₅ =>
      H.T.stays st₄ how (fun p hp => (N₄ p (by
        rcases List.mem_append.mp hp with q | q
        · exact List.mem_append_left _ q
        · exact List.mem_append_right _ (.tail _ (.tail _ (hinF p q))))).1) fun p hp => N₅ p (by
        rcases List.mem_append.mp hp with q | q
        · exact List.mem_append_left _ q
        · exact List.mem_append_right _ (H.keep _ _ _ hJ' p q))
    refine wpAny_bind (wpAny_mono (H.turn i bs ys led ow C oC' D mx h₄ tk₄ hlt hB hJ how hoC' hbs F₄ N₄ off hCa hDa hCD) (fun ok s₃ z => ?_) fun _ _ f => f.elim)
    cases ok with
    | false =>
      obtain ⟨oC₅, m₅, led', F₅, N₅, c₅, off₅, hJ₅, r₅⟩ : CpE g L m s₂ ow as C D ys (J (i + 1) ys) s₃ := z
      exact wpAny_pure ⟨rfl, n - (i + 1), by lia, i + 1, ys, rfl, hlt, back _ _ _ hJ₅ fun p hp => (N₅ p (by
        rcases List.mem_append.mp hp with q | q
        · exact List.mem_append_left _ q
        · exact List.mem_append_right _ (.tail _ (.tail _ q)))).1, oC₅, m₅, led', F₅, fun p hp => N₅ p (List.mem_append_right _ hp), c₅, off₅, hJ₅, r₅⟩
    | true =>
      refine wpAny_bind (wpAny_bind (wpAny_mono (id z : wpAny _ _ _ _ _ _) (fun y s₄ z => ?_) fun _ _ f => f.elim))
      obtain ⟨oC₅, m₅, led', F₅, N₅, c₅, off₅, hJ₅, h₅, tk₅, rfl⟩ := z
      have zD := N₅ (D, lst ys) (List.mem_append_right _ (.tail _ (.head _)))
      refine wpAny_bind (append_at (hsz := by show ys.toArray.size ≤ sizeLine; rw [List.size_toArray]; exact Nat.le_trans (H.len _ _ _ hJ) (Nat.le_trans hi H.size)) zD.1 fun h₆ d6 e6 => wpAny_pure (wpAny_pure ?_))
      have k6 : ∀ b o, b ∉ [D] → h₅.get? b = some o → h₆.get? b = some o := fun b o hb => d6.extBut b o fun q => hb (q ▸ .head _)
      have rest₆ : News g L h₆ (ow ++ led') := stay_off (fun p hp => N₅ p (by
        rcases List.mem_append.mp hp with q | q
        · exact List.mem_append_left _ q
        · exact List.mem_append_right _ (.tail _ (.tail _ q)))) (as := [D]) (List.forall_mem_append.mpr ⟨fun p hp q => hDa (List.mem_singleton.mp q ▸ how ▸ List.mem_map_of_mem hp), fun p hp q => (off₅ p hp).2.2 (List.mem_singleton.mp q)⟩) k6
      refine ⟨rfl, n - (i + 1), by lia, i + 1, ys ++ [y], rfl, hlt, back _ _ _ hJ₅ fun p hp => (rest₆ p hp).1, oC₅, m₅, led', F₅.change d6 zD.2.1 zD.2.2, ?_, c₅, off₅, hJ₅, h₆, tk₅, rfl⟩
      have zC := N₅ (C, oC₅) (List.mem_append_right _ (.head _))
      exact List.forall_mem_cons.mpr ⟨⟨k6 _ _ (fun q => hCD (List.mem_singleton.mp q)) zC.1, zC.2⟩, List.forall_mem_cons.mpr ⟨⟨e6.trans (congrArg some (lst_snoc ys y)), zD.2⟩, fun p hp => rest₆ p (List.mem_append_right _ hp)⟩⟩
  · refine W.done _ _ _ st fun h₂ tk₂ k2 => wpAny_pure (fin ys _ ⟨oC, m₂, led, ?_, ?_, hoC, off, hJ, h₂, tk₂, rfl⟩)
    · exact fr_off F H.far fun b o hb => k2 b o fun q => hb (hwr b q)
    · exact stay_off N offA fun b o hb => k2 b o fun q => hb (hwr b q)
theorem Comp_B {RR : Value → Addr → Result → Shared → Prop} (H : CpH prog w A g L m env s₂ elt target ifs scope cl I as fx n P St J B) (hcell : ∀ y ∈ scope.names, y.2 ≠ .cell) (hkind : scope.kind = .function)
    (hst : St 0 s₂.heap) (F : Fr g L s₂.heap m) (N : News g L s₂.heap news) (off : ∀ p ∈ news, p.1 ∉ as) (h0 : J 0 [] news)
    (hRR : ∀ D C h tk m' ys led, Fr g L h m → News g L h ((D, lst ys) :: led) → (∀ p ∈ led, p.1 ≠ C ∧ p.1 ≠ D) → h.Ns C m' → g.get? C = none → C ≠ L → C ≠ D → J n ys led → RR (.ref D) C (.ok .next) { s₂ with heap := h, toks := tk }) :
    wpAny (model prog w) A (newList []) (fun acc s₃ => wpAny (model prog w) A (newFunctionEnv scope env.globals cl [] env.qual none .none (some env)) (fun cenv s₄ =>
      codeAny (model prog w) A (.compStart (.ListComp elt [⟨target, iter, ifs, 0⟩] scope pos) 0 (.ref I) acc { cenv with scope := relabel scope env }) (RR acc cenv.locals) s₄) E s₃) E s₂ := by
  refine wpAny_newObj_type (wpAny_newFunctionEnv hcell (fun _ h => nomatch h) (fun h₁ ns₁ k1 => ?_) hkind)
  have F₀ := F.push (lst [])
  have N₀ : News g L (s₂.heap.push (lst [])) ((s₂.heap.objs.size, lst []) :: news) := N.push F (lst [])
  have up : ∀ b o, (s₂.heap.push (lst [])).get? b = some o → h₁.get? b = some o := fun b o e => k1.extBut b o (Nat.ne_of_lt (Heap.lt_size e)) (Heap.get?_push_of_some _ e)
  obtain ⟨oC, eC, hoC⟩ := ns_obj ns₁
  have hC : (s₂.heap.push (lst [])).objs.size ≠ L ∧ g.get? (s₂.heap.push (lst [])).objs.size = none := ⟨Nat.ne_of_gt F₀.ns.lt, ktu_new F₀ (Nat.le_refl _)⟩
  have st₁ : St 0 h₁ := by
    obtain ⟨fp, wr, Md, W, _, _⟩ := H.T.turns
    exact W.frame _ _ _ hst fun b _ o e => up b o (Heap.get?_push_of_some _ e)
  have low : ∀ b ∈ as, b < s₂.heap.objs.size := fun b hb => by
    obtain ⟨o, e⟩ := H.T.own _ _ hst b hb
    exact Heap.lt_size e
  have hlt : s₂.heap.objs.size < (s₂.heap.push (lst [])).objs.size := Heap.lt_size (N₀ _ (.head _)).1
  have go : codeAny (model prog w) A (.compLoop (.ListComp elt [⟨target, iter, ifs, 0⟩] scope pos) 0 (.ref I) (.ref s₂.heap.objs.size) (compEnvC scope cl (s₂.heap.push (lst [])).objs.size env)) (RR (.ref s₂.heap.objs.size) (s₂.heap.push (lst [])).objs.size)
      { s₂ with heap := h₁, toks := s₂.toks + ([] : List (Str × Value)).length } :=
    H.loop (fun q => Nat.lt_asymm (low _ q) hlt) (fun q => Nat.lt_irrefl _ (low _ q)) (Nat.ne_of_gt hlt) (fun ys s' z => by
      obtain ⟨oC', m', led, F', N', c', off', hJ, h', tk', rfl⟩ := z
      exact hRR _ _ h' tk' m' ys led F' (fun p hp => N' p (.tail _ hp)) (fun p hp => (off' p hp).2) (c'.ns (N' _ (.head _)).1) hC.2 hC.1 (Nat.ne_of_gt hlt) hJ) st₁
      ⟨oC, _, news, F₀.keeps up, List.forall_mem_cons.mpr ⟨⟨eC, hC⟩, N₀.grown up⟩, hoC, fun p hp => ⟨off p hp, Nat.ne_of_lt (Nat.lt_trans (Heap.lt_size (N p hp).1) hlt), Nat.ne_of_lt (Heap.lt_size (N p hp).1)⟩, h0, h₁, _, rfl⟩
  exact codeAny_compStart_list go (H.T.self 0 _ _ _ st₁ go)
end
end Mine
end
section
open PySem PySem.W PySem.W.X PyProof.Rows PyProof.Rows.LCg PyProof.V
set_option maxRecDepth 100000
set_option Elab.async false
namespace Mine
section
variable {prog : Program} {w : World} {A : Around} {E : Value → Shared → Prop} {s : Shared} {g : Heap} {L : Addr} {m : Str → Option Value} {news : List (Addr × Obj)} {env : Env}
  {elt target iter : Expr} {ifs : List Expr} {scope : Scope} {pos spos py : Pos} {cl : List (Str × Addr)}
theorem itr_list (hh : A.handled = none) {I l : Addr} (hne : l ≠ I) {its : Array Value} {nn : Nat}
    (hgo : ∀ i v (s : Shared) (Q : Unit → Shared → Prop) (E : Value → Shared → Prop), s.heap.IsListIter I l i → Q () s → wpAny (model prog w) A (letOwnedTupleGo target (.ref I) v) Q E s) :
    Itr prog w A target I [I] [(l, lstO its nn)] its.size (fun i v h => its[i]? = some v ∧ h.IsListIter I l (i + 1) ∧ h.IsList l its) (fun i h => h.IsListIter I l i ∧ h.IsList l its) where
  turns := ⟨[I, l], [I], _, KTurns.ofWalks (Walks.list hh I l hne its) (fun i v s Q E st q => hgo i v s Q E st.1 q) |> (fun W => ⟨W.sub, W.frame, W.item, fun i v s Q E hm hQ => W.go i v s Q E hm fun h' p st k => hQ h' ⟨p, st⟩ st k, W.done⟩),
    fun b hb => by simp at hb ⊢; exact hb, fun b hb => hb⟩
  own := fun i h st b hb => by rw [List.mem_singleton.mp hb]; obtain ⟨o, e, _⟩ := st.1; exact ⟨o, e⟩
  self := fun i s Q E st hQ => wpAny_pyIter_listiter st.1 hQ
theorem itr_zip (hh : A.handled = none) {z TI TO i1 i2 l1 l2 : Addr} (D : ZipApart z TI TO i1 i2 l1 l2) {xs ys : Array Value} {n1 n2 : Nat} {elts : List Expr} {kk : Nat} {tp : Pos} :
    Itr prog w A (.Tuple elts kk tp) z [z, TI, TO, i1, i2] [(l1, lstO xs n1), (l2, lstO ys n2)] (min xs.size ys.size) (fun i v h => ∃ T vals, v = .ref T ∧ (∃ x y, xs[i]? = some x ∧ ys[i]? = some y ∧ vals = #[x, y]) ∧ h.IsTuple T vals)
      (fun i h => IsZip h z TI TO .none ∧ IsPair h TI (.ref i1) (.ref i2) ∧ (∃ a b, IsPair h TO a b) ∧ h.IsListIter i1 l1 i ∧ h.IsListIter i2 l2 i ∧ h.IsList l1 xs ∧ h.IsList l2 ys) where
  turns := ⟨_, _, _, KTurns.ofWalksU (WalksT.zip2 hh _ _ _ _ _ _ _ D xs ys).toU, fun b hb => by simp at hb ⊢; rcases hb with h | h | h | h | h | h | h <;> simp [h], fun b hb => by simp at hb ⊢; rcases hb with h | h | h | h <;> simp [h]⟩
  own := fun i h st b hb => by
    obtain ⟨hz, hTI, ⟨a, c, hTO⟩, h1, h2, _, _⟩ := st
    simp at hb
    rcases hb with rfl | rfl | rfl | rfl | rfl
    · exact ⟨_, hz⟩
    · exact ⟨_, hTI⟩
    · exact ⟨_, hTO⟩
    · obtain ⟨o, e, _⟩ := h1; exact ⟨o, e⟩
    · obtain ⟨o, e, _⟩ := h2; exact ⟨o, e⟩
  self := fun i s Q E st hQ => wpAny_pyIter_zip st.1 hQ
noncomputable abbrev zipAs (I : Nat) : List Addr := [I + 4, I + 2, I + 3, I, I + 1]
end
end Mine
end
section
open PySem PySem.W PySem.W.X PyProof.Rows PyProof.Rows.LCg PyProof.V
set_option maxRecDepth 100000
set_option Elab.async false
namespace Mine
section
variable {prog : Program} {w : World} {A : Around} {E : Value → Shared → Prop} {s : Shared} {g : Heap} {L : Addr} {m : Str → Option Value} {news : List (Addr × Obj)} {env : Env}
  {elt target iter : Expr} {ifs : List Expr} {scope : Scope} {pos spos py : Pos} {cl : List (Str × Addr)}
theorem itr_walks {I : Addr} {fp : List Addr} {n : Nat} {P : Nat → Value → Prop} {St : Nat → Heap → Prop} {fx : List (Addr × Obj)} {x : Str} {px : Pos} (W : Walks prog w A I fp [I] n P St) (hfp : ∀ b ∈ fp, b = I ∨ b ∈ fx.map (·.1)) (hI : ∀ i h, St i h → ∃ o, h.get? I = some o) :
    Itr prog w A (.Name x px) I [I] fx n (fun i v h => P i v ∧ St (i + 1) h) St where
  turns := ⟨fp, [I], _, KTurns.ofWalks W (fun i v s Q E st q => wpAny_pure q) |> (fun W => ⟨W.sub, W.frame, W.item, fun i v s Q E hm hQ => W.go i v s Q E hm fun h' p st k => hQ h' ⟨p, st⟩ st k, W.done⟩),
    fun b hb => (hfp b hb).imp (fun h => List.mem_singleton.mpr h) id, fun b hb => hb⟩
  own := fun i h st b hb => by rw [List.mem_singleton.mp hb]; exact hI i h st
  self := fun i s Q E st hQ => W.self i s Q E st hQ
end
end Mine
end
section
open PySem PySem.W PySem.W.X PyProof.Rows PyProof.Rows.LCg PyProof.V
set_option maxRecDepth 100000
set_option Elab.async false
namespace Mine
section
variable {prog : Program} {w : World} {A : Around} {E : Value → Shared → Prop} {s : Shared}
theorem bytes_len9 : typeLookup (.type "bytes") "__len__" = pure (some (.builtin "bytes.__len__")) := by rw [typeLookup_type, builtinLookup_eq_fast]; kernel_rfl
theorem bInts_get {x : Array UInt8} {ks : List Int} (h : KBw.bInts x = ks) {i : Nat} {c : UInt8} (e : x[i]? = some c) : ks[i]? = some (c.toNat : Int) := by
  subst h
  unfold KBw.bInts
  simp [e]
theorem bInts_size {x : Array UInt8} {ks : List Int} (h : KBw.bInts x = ks) : x.size = ks.length := by
  subst h
  unfold KBw.bInts
  simp
theorem ints_of_get : ∀ {vs : List Value} {ks : List Int}, vs.length = ks.length → (∀ (j : Nat) v, vs[j]? = some v → ∃ n t, ks[j]? = some n ∧ v = .int n t) → IntsAre vs ks
  | [], [], _, _ => .nil
  | v :: r, k :: q, e, h => by
    obtain ⟨n, t, h1, rfl⟩ := h 0 v rfl
    obtain rfl : k = n := by simpa using h1
    exact .cons _ _ (ints_of_get (by simpa using e) fun j v hv => by simpa using h (j + 1) v (by simpa using hv))
theorem list_bytes {h₀ : Heap} {L : Addr} {m : Str → Option Value} {news : List (Addr × Obj)} {Q : Value → Shared → Prop} {x : Array UInt8} {t : Tok} {ks : List Int} (hh : A.handled = none) (F : Fr h₀ L s.heap m) (N : News h₀ L s.heap news) (hk : KBw.bInts x = ks) (hz : ks.length ≤ 100)
    (h : ∀ (D : Nat) vs c h' tk, Fr h₀ L h' m → News h₀ L h' ((D, lstO (List.toArray vs) c) :: news) → (∀ p ∈ news, p.1 < D) → IntsAre vs ks → Q (.ref D) { s with heap := h', toks := tk }) :
    wpAny (model prog w) A (call (.type "list") [.bytes x t]) Q E s := by
  have hs := bInts_size hk
  have low : ∀ p ∈ news, p.1 < s.heap.objs.size := fun p hp => Heap.lt_size (N p hp).1
  refine callType_codes (Q₁ := fun v s₁ => v = .ref s.heap.objs.size ∧ s₁ = { s with heap := s.heap.push (lst []) }) PySem.F.called_list (PySem.F.typeCall_list_1 _) PySem.F.entry_list_init (code_list_new _ ⟨rfl, rfl⟩) ?_
  rintro _ _ ⟨rfl, rfl⟩
  -- the list stands, empty
  have N₁ : News h₀ L (s.heap.push (lst [])) ((s.heap.objs.size, lst []) :: news) := N.push F (lst [])
  have z₁ := N₁ _ (.head _)
  refine ⟨⟨_, z₁.1, rfl⟩, PySem.F.args_list_init_2 _ _, ?_⟩
  show wpAny _ _ ((seqItems? (.ref s.heap.objs.size) >>= _) >>= fun old => updateSeq s.heap.objs.size (fun _ => #[]) >>= fun _ => letGo (Array.toList old).reverse >>= fun _ => Builtin.List.listExtendWith (.ref s.heap.objs.size) (.bytes x t) .none) _ _ _
  refine wpAny_bind (wpAny_bind (wpAny_seqItems z₁.1 rfl (wpAny_pure (wpAny_bind (wpAny_updateSeq z₁.1 rfl (wpAny_bind (wpAny_letGo ?_)))))))
  have sb := Heap.SameBut.update (s.heap.push (lst [])) s.heap.objs.size (Obj.mapSeq fun _ => #[])
  have N₂ := news_set (pre := []) N₁ (fun _ h => nomatch h) (fun p hp => Nat.ne_of_lt (low p hp)) sb (Heap.get?_update_self (Obj.mapSeq fun _ => #[]) z₁.1 rfl)
  have F₂ := (F.push (lst [])).change sb z₁.2.1 z₁.2.2
  -- what runs through the bytes is made
  show wpAny _ _ (typeOf (.bytes x t) >>= _) _ _ _
  refine wpAny_bind (wpAny_typeOf (T := "bytes") rfl ?_)
  show wpAny _ _ (pyIter (.bytes x t) >>= fun iter => holding [iter] (Builtin.List.listLengthHint (.bytes x t)) >>= _) _ _ _
  refine wpAny_bind (KBw.pyIter_bytes (wpAny_bind (wpAny_holding (wpAny_bind (wpAny_specialOf (T := "bytes") rfl bytes_len9 ?_)))))
  show wpAny _ _ (isInstance (.bytes x t) (.type "bytes") >>= _) _ _ _
  refine wpAny_bind (wpAny_isInstance (T := "bytes") (b := true) rfl (by rw [isSubtype_type]; kernel_rfl) ?_)
  show wpAny _ _ (typeOf (.bytes x t) >>= _) _ _ _
  refine wpAny_bind (wpAny_typeOf (T := "bytes") rfl (wpAny_pure ?_))
  have N₃ := N₂.push F₂ { cls := .type "bytes_iterator", data := .fields #[.bytes x t, .int 0 0] }
  have F₃ := F₂.push { cls := .type "bytes_iterator", data := .fields #[.bytes x t, .int 0 0] }
  have lt : s.heap.objs.size < _ := Heap.lt_size (N₂ _ (.head _)).1
  have zI := N₃ _ (.head _)
  have zD := N₃ _ (.tail _ (.head _))
  -- the loop
  refine wpAny_pure ⟨plainId_quiet PySem.F.plain_extend_loop _, codeAny_extend_loopS (KBw.walks (A := A.in1.in1) hh _ x t).toS (by rw [hs]; exact Nat.le_trans hz (by decide)) _ (fun q => Nat.ne_of_lt lt (List.mem_singleton.mp q)) _ x.size 0 _ _ _ rfl (Nat.zero_le _) ⟨_, zI.1, rfl, rfl⟩ zD.1 (ItemsOf.nil _) fun s' acc c mv e hI => ?_⟩
  rw [Moved.eq_with mv]
  have off : ∀ I, s.heap.objs.size < I → ∀ p ∈ news, p.1 ∉ [s.heap.objs.size, I] := fun I lt p hp q => by
    rcases List.mem_cons.mp q with q | q
    · exact Nat.ne_of_lt (low p hp) q
    · exact Nat.ne_of_lt (Nat.lt_trans (low p hp) lt) (List.mem_singleton.mp q)
  refine ⟨rfl, h _ acc.toList c s'.heap s'.toks (fr_off F₃ (fun b hb => ?_) mv.heap) (List.forall_mem_cons.mpr ⟨⟨by rw [Array.toArray_toList]; exact e, zD.2⟩, stay_off (fun p hp => N₃ p (.tail _ (.tail _ hp))) (off _ lt) mv.heap⟩) low (ints_of_get (by rw [Array.length_toList, hI.1, hs]) fun j v hv => ?_)⟩
  · rcases List.mem_cons.mp hb with rfl | hb
    · exact zD.2.symm
    · rw [List.mem_singleton.mp hb]; exact zI.2.symm
  · obtain ⟨b, u, e, rfl⟩ := hI.2 j v (by simpa using hv)
    exact ⟨_, u, bInts_get hk e, rfl⟩
end
end Mine
end
section
open PySem PySem.W PySem.W.X PyProof.Rows PySem.Builtin.Str
set_option maxRecDepth 100000
set_option Elab.async false
namespace Mine
structure EsP (c : Fc) (env : Env) (Γ : Gm) (xt mu fz : Led) (m mm : Str → Option Value) : Prop where
  nd : ((xt ++ mu).map (·.1)).Nodup
  of : ∀ p ∈ fz, p.1 ∉ (xt ++ mu).map (·.1)
  ot : ∀ p ∈ xt ++ (mu ++ fz), p.1 ∉ tabs
  hn : (env.locals = c.L ∧ mm = m) ∨ ∃ oC, (env.locals, oC) ∈ xt ∧ LCg.NsObj oC mm
  lc : ∀ x r, Γ x = some r → ∃ v, Nm env mm mu x v ∧ r.Is mu fz v
  ce : ∀ x a, env.kindOf x = some .cell → env.cells.lookup x = some a → ∃ o v, (a, o) ∈ mu ∧ o.data = .cell v
  sep : ∀ x y ax ay lx ly v, Γ x = some (.ownE ax lx) → Γ y = some (.ownE ay ly) → Nm env mm mu x v → Nm env mm mu y v → x = y
section
variable {c : Fc} {env : Env} {Γ Γ' Γ₁ : Gm} {xt mu fz : Led} {m mm : Str → Option Value} {s : Shared} {h h' : Heap}
theorem Es.pure (S : Es c env Γ xt mu fz m mm h) : EsP c env Γ xt mu fz m mm := ⟨S.nd, S.of, S.ot, S.hn, S.lc, S.ce, S.sep⟩
theorem EsP.es (S : EsP c env Γ xt mu fz m mm) (F : Fr c.g c.L h m) (N : ∃ tb, Tb c.q tb ∧ News c.g c.L h (xt ++ (mu ++ (tb ++ fz)))) : Es c env Γ xt mu fz m mm h := ⟨F, N, S.nd, S.of, S.ot, S.hn, S.lc, S.ce, S.sep⟩
theorem Tb.at {q : List Value → Prop} {tb : Led} (T : Tb q tb) : ∀ p ∈ tb, p.1 ∈ tabs := by
  obtain ⟨p1, p2, p3, p4, rfl, _⟩ := T
  intro p hp
  simp only [List.mem_cons, List.not_mem_nil, or_false] at hp
  rcases hp with rfl | rfl | rfl | rfl <;> simp [tabs]
theorem EsP.aside {ow tb : Led} {as : List Addr} (S : EsP c c.env Γ xt mu fz m m) (how : ow.map (·.1) = as) (hnd : as.Nodup) (T : Tb c.q tb) (off : ∀ p ∈ xt ++ (mu ++ (tb ++ fz)), p.1 ∉ as) : EsP c c.env Γ (ow ++ xt) mu fz m m := by
  refine ⟨?_, fun p hp hq => ?_, fun p hp => ?_, .inl ⟨rfl, rfl⟩, S.lc, S.ce, S.sep⟩
  · rw [List.append_assoc, List.map_append, how]
    refine List.nodup_append.mpr ⟨hnd, S.nd, fun a ha b hb e => ?_⟩
    obtain ⟨q, hq, rfl⟩ := List.mem_map.mp hb
    exact off q (by rcases List.mem_append.mp hq with h | h <;> simp [h]) (e ▸ ha)
  · rw [List.append_assoc, List.map_append, how] at hq
    rcases List.mem_append.mp hq with hq | hq
    · exact off p (by simp [hp]) hq
    · exact S.of p hp hq
  · rw [List.append_assoc] at hp
    rcases List.mem_append.mp hp with hp | hp
    · intro ht
      obtain ⟨o, ho⟩ := T.mem _ ht
      exact off (p.1, o) (by simp [ho]) (how ▸ List.mem_map_of_mem (f := (·.1)) hp)
    · exact S.ot p hp
theorem EsP.back {ow tb : Led} {as : List Addr} (S : EsP c c.env Γ (ow ++ xt) mu fz m m) (how : ow.map (·.1) = as) (T : Tb c.q tb) : EsP c c.env Γ xt mu fz m m ∧ ∀ p ∈ xt ++ (mu ++ (tb ++ fz)), p.1 ∉ as := by
  have hn := S.nd
  rw [List.append_assoc, List.map_append, List.nodup_append] at hn
  refine ⟨⟨hn.2.1, fun p hp hq => S.of p hp ?_, fun p hp => S.ot p ?_, .inl ⟨rfl, rfl⟩, S.lc, S.ce, S.sep⟩, fun p hp hq => ?_⟩
  · rw [List.append_assoc, List.map_append]; exact List.mem_append_right _ hq
  · rw [List.append_assoc]; exact List.mem_append_right _ hp
  · rw [← how] at hq
    simp only [List.mem_append] at hp
    rcases hp with h | h | h | h
    · exact hn.2.2 _ hq _ (List.mem_map_of_mem (List.mem_append_left _ h)) rfl
    · exact hn.2.2 _ hq _ (List.mem_map_of_mem (List.mem_append_right _ h)) rfl
    · obtain ⟨q, hq', e⟩ := List.mem_map.mp hq
      exact S.ot q (List.mem_append_left _ (List.mem_append_left _ hq')) (e ▸ T.at p h)
    · refine S.of p h ?_
      rw [List.append_assoc, List.map_append]
      exact List.mem_append_left _ hq
structure AsT (c : Fc) (Γ : Gm) (t : Expr) (r : Rv) (Γ' : Gm) : Prop where
  run : ∀ xt mu fz m v (s : Shared) (Q : Unit → Shared → Prop) (E : Value → Shared → Prop), Es c c.env Γ xt mu fz m m s.heap → r.At mu fz s.heap v →
  (∀ mu' m' h' tk, Es c c.env Γ' xt mu' fz m' m' h' → Q () { s with heap := h', toks := tk }) → wpAny c.M c.A (assign t c.env v) Q E s
theorem AsT.name {x : Str} {px : Pos} {r : Rv} (t : SoT c Γ x r) (hz : r.nz = true := by rfl) : AsT c Γ (.Name x px) r (put Γ x r) := ⟨fun xt mu fz m v s Q E S hv q => wpAny_assign_Name (t.run xt mu fz m v s Q E S (hv.is hz) q)⟩
theorem AsT.two {x y : Str} {px py tp : Pos} {k : Nat} {r r1 r2 : Rv} (t1 : SoT c Γ x r1) (t2 : SoT c (put Γ x r1) y r2) (hr : ∀ mu fz h v, News c.g c.L h fz → r.At mu fz h v → ∃ T a b, v = .ref T ∧ h.IsTuple T #[a, b] ∧ ∀ mu, r1.Is mu fz a ∧ r2.Is mu fz b) : AsT c Γ (.Tuple [.Name x px, .Name y py] k tp) r (put (put Γ x r1) y r2) := by
  refine ⟨fun xt mu fz m v s Q E S hv q => ?_⟩
  obtain ⟨tb, T, N⟩ := S.N
  obtain ⟨T9, v1, v2, rfl, hT, ha⟩ := hr mu fz _ v (fun p hp => N p (List.mem_append_right _ (List.mem_append_right _ (List.mem_append_right _ hp)))) hv
  refine unpackN_ (items := #[v1, v2]) S.F N hT rfl rfl rfl fun h' F' N' => ?_
  have S2 := S.move F' ⟨tb, T, N'⟩
  refine assignInOrder_cons (wpAny_assign_Name (t1.run xt mu fz m v1 { s with heap := h' } _ _ S2 (ha _).1 fun mu3 m3 h3 k3 S3 => ?_))
  refine assignInOrder_cons (wpAny_assign_Name (t2.run xt mu3 fz m3 v2 { s with heap := h3, toks := k3 } _ _ S3 (ha _).2 fun mu4 m4 h4 k4 S4 => ?_))
  exact assignInOrder_nil (q mu4 m4 h4 k4 S4)
theorem AsT.zip {x y : Str} {px py tp : Pos} {k : Nat} {e1 e2 : El} (t1 : SoT c Γ x e1.rv) (t2 : SoT c (put Γ x e1.rv) y e2.rv) : AsT c Γ (.Tuple [.Name x px, .Name y py] k tp) (.zp e1 e2) (put (put Γ x e1.rv) y e2.rv) :=
  AsT.two t1 t2 fun mu fz h v _ hv => by
    obtain ⟨T, a, b, rfl, k1, k2, k3⟩ := hv.z
    exact ⟨T, a, b, rfl, k1, fun _ => ⟨El.rvIs k2, El.rvIs k3⟩⟩
theorem AsT.pair {x y : Str} {px py tp : Pos} {k : Nat} {d1 d2 : Dat} (t1 : SoT c Γ x (.d d1)) (t2 : SoT c (put Γ x (.d d1)) y (.d d2)) : AsT c Γ (.Tuple [.Name x px, .Name y py] k tp) (.d (.tuple [d1, d2])) (put (put Γ x (.d d1)) y (.d d2)) :=
  AsT.two t1 t2 fun mu fz h v N hv => by
    cases hv.is rfl with
    | tuple hm ha =>
      cases ha with
      | cons a1 ha => cases ha with
        | cons a2 ha => cases ha with
          | nil => exact ⟨_, _, _, rfl, ⟨_, (N _ hm).1, rfl, _, rfl⟩, fun _ => ⟨a1, a2⟩⟩
inductive FoT (c : Fc) (t : Expr) (b : List Stmt) : List Rv → Gm → Gm → Prop
  | nil {Γ : Gm} : FoT c t b [] Γ Γ
  | cons {r : Rv} {rs : List Rv} {Γ Γ₁ Γ₂ Γ₃ : Gm} {fl : Fl2} : AsT c Γ t r Γ₁ → BdT c Γ₁ b Γ₂ fl → (fl = .next ∨ fl = .cont) → FoT c t b rs Γ₂ Γ₃ → FoT c t b (r :: rs) Γ Γ₃
theorem For_T {t : Expr} {b : List Stmt} {rs : List Rv} {I : Addr} {as : List Addr} {fx tb : Led} {P : Nat → Value → Heap → Prop} {St : Nat → Heap → Prop} {Q : Flow → Shared → Prop} {E : Value → Shared → Prop}
    (T : Itr PySem.Challenge.pw_kq0058_01 c.w c.A t I as fx rs.length P St) (hst : St 0 s.heap) (S : Es c c.env Γ xt mu fz m m s.heap) (hT : Tb c.q tb) (N : News c.g c.L s.heap (xt ++ (mu ++ (tb ++ fz)))) (has : ∀ b ∈ as, c.g.get? b = none ∧ b ≠ c.L) (hnd : as.Nodup)
    (off : ∀ p ∈ xt ++ (mu ++ (tb ++ fz)), p.1 ∉ as) (hfx : ∀ p ∈ fx, p ∈ fz) (hP : ∀ i v h, P i v h → ∀ r, rs[i]? = some r → ∀ mu, r.At mu fz h v)
    (hF : FoT c t b rs Γ Γ') (q : ∀ mu' fz' m' h' tk, (∀ p ∈ fz, p ∈ fz') → Es c c.env Γ' xt mu' fz' m' m' h' → Q .next { s with heap := h', toks := tk }) :
    codeAny c.M c.A (.forLoop t (.ref I) b [] c.env) (fun r s' => match r with | .ok f => Q f s' | .error e => cameBackBy c.M c.A c.env E e s') s := by
  obtain ⟨fp, wr, Md, W, hfp, hwr⟩ := T.turns
  have hLas : c.L ∉ as := fun h => (has c.L h).2 rfl
  have gk : ∀ b o, c.g.get? b = some o → b ∉ as := fun b o e hb => by rw [(has b hb).1] at e; cases e
  refine codeAny_forLoop_any (fun k s' => ∃ i Γi mu' fz' tb' m' h' tk, s' = { s with heap := h', toks := tk } ∧ k = rs.length + 1 - i ∧ i ≤ rs.length ∧ St i h' ∧ Fr c.g c.L h' m' ∧ Tb c.q tb' ∧ News c.g c.L h' (xt ++ (mu' ++ (tb' ++ fz'))) ∧
      (∀ p ∈ xt ++ (mu' ++ (tb' ++ fz')), p.1 ∉ as) ∧ (∀ p ∈ fz, p ∈ fz') ∧ EsP c c.env Γi xt mu' fz' m' m' ∧ FoT c t b (rs.drop i) Γi Γ') ?_ (rs.length + 1)
    ⟨0, Γ, mu, fz, tb, m, s.heap, s.toks, rfl, rfl, Nat.zero_le _, hst, S.F, hT, N, off, fun _ h => h, S.pure, hF⟩
  intro k s' hI
  obtain ⟨i, Γi, mu', fz', tb', m', h', tk, rfl, rfl, hi, hst', F', T', N', off', sub', P', hF'⟩ := hI
  by_cases hlt : i < rs.length
  · refine W.item i _ _ _ hlt hst' fun v h₂ tk₂ hMd hk₂ => ?_
    refine W.go i v _ _ _ hMd fun h₃ hPv hst₃ hk₃ => ?_
    have k3 : ∀ b o, b ∉ as → h'.get? b = some o → h₃.get? b = some o := fun b o hb e => hk₃ b o (fun h => hb (hwr b h)) (hk₂ b o (fun h => hb (hwr b h)) e)
    obtain ⟨ow, how, how'⟩ := map_fst_of (T.own _ _ hst₃)
    have F₃ : Fr c.g c.L h₃ m' := ⟨F'.ns.at' fun o e => k3 _ o hLas e, fun b o e => k3 b o (gk b o e) (F'.keep b o e), F'.above⟩
    have N₃ : News c.g c.L h₃ ((ow ++ xt) ++ (mu' ++ (tb' ++ fz'))) := fun p hp => by
      rw [List.append_assoc] at hp
      rcases List.mem_append.mp hp with hp | hp
      · have : p.1 ∈ as := how ▸ List.mem_map_of_mem (f := (·.1)) hp
        exact ⟨how' p hp, (has _ this).2, (has _ this).1⟩
      · exact ⟨k3 _ _ (off' p hp) (N' p hp).1, (N' p hp).2⟩
    rw [List.drop_eq_getElem_cons hlt] at hF'
    cases hF' with
    | cons hA hB hfl hF₂ =>
      have S₃ := (P'.aside how hnd T' off').es F₃ ⟨tb', T', N₃⟩
      refine hA.run (ow ++ xt) mu' fz' m' v { s with heap := h₃, toks := tk₂ } _ _ S₃ (Rv.At.mono sub' (hP i v h₃ hPv _ (List.getElem?_eq_getElem hlt) mu')) fun mu₄ m₄ h₄ tk₄ S₄ => ?_
      refine hB.run (ow ++ xt) mu₄ fz' m₄ { s with heap := h₄, toks := tk₄ } _ _ S₄ fun f mu₅ fz₅ m₅ h₅ tk₅ sub₅ S₅ hf => ?_
      obtain ⟨tb₅, T₅, N₅⟩ := S₅.N
      obtain ⟨P₅, off₅⟩ := S₅.pure.back how T₅
      have inv : ∃ m, m < rs.length + 1 - i ∧ ∃ i Γi mu' fz' tb' m' h' tk, ({ s with heap := h₅, toks := tk₅ } : Shared) = { s with heap := h', toks := tk } ∧ m = rs.length + 1 - i ∧ i ≤ rs.length ∧ St i h' ∧ Fr c.g c.L h' m' ∧ Tb c.q tb' ∧ News c.g c.L h' (xt ++ (mu' ++ (tb' ++ fz'))) ∧
          (∀ p ∈ xt ++ (mu' ++ (tb' ++ fz')), p.1 ∉ as) ∧ (∀ p ∈ fz, p ∈ fz') ∧ EsP c c.env Γi xt mu' fz' m' m' ∧ FoT c t b (rs.drop i) Γi Γ' := by
        refine ⟨rs.length + 1 - (i + 1), by lia, i + 1, _, mu₅, fz₅, tb₅, m₅, h₅, tk₅, rfl, rfl, hlt, W.frame _ _ _ hst₃ fun b hb o e => ?_, S₅.F, T₅, fun p hp => N₅ p (by rw [List.append_assoc]; exact List.mem_append_right _ hp), off₅, fun p hp => sub₅ p (sub' p hp), P₅, hF₂⟩
        rcases hfp b hb with h1 | h1
        · obtain ⟨p, hp, rfl⟩ := List.mem_map.mp (how ▸ h1 : b ∈ ow.map (·.1))
          rw [how' p hp] at e; cases e
          exact (N₅ p (by rw [List.append_assoc]; exact List.mem_append_left _ hp)).1
        · obtain ⟨p, hp, rfl⟩ := List.mem_map.mp h1
          have e1 := (N₃ p (List.mem_append_right _ (List.mem_append_right _ (List.mem_append_right _ (sub' p (hfx p hp)))))).1
          rw [e1] at e; cases e
          exact (N₅ p (List.mem_append_right _ (List.mem_append_right _ (List.mem_append_right _ (sub₅ p (sub' p (hfx p hp))))))).1
      rcases hfl with rfl | rfl
      · cases hf; exact inv
      · cases hf; exact inv
  · obtain rfl : i = rs.length := Nat.le_antisymm hi (Nat.not_lt.mp hlt)
    refine W.done _ _ _ hst' fun h₂ tk₂ hk₂ => ?_
    have k2 : ∀ b o, b ∉ as → h'.get? b = some o → h₂.get? b = some o := fun b o hb e => hk₂ b o (fun h => hb (hwr b h)) e
    refine wpAny_execs_nil ?_
    rw [List.drop_length] at hF'
    cases hF'
    exact q mu' fz' m' h₂ tk₂ sub' (P'.es ⟨F'.ns.at' fun o e => k2 _ o hLas e, fun b o e => k2 b o (gk b o e) (F'.keep b o e), F'.above⟩ ⟨tb', T', fun p hp => ⟨k2 _ _ (off' p hp) (N' p hp).1, (N' p hp).2⟩⟩)
end
end Mine
end
section
open PySem PySem.W PySem.W.X PyProof.Rows PySem.Builtin.Str
set_option maxRecDepth 100000
set_option Elab.async false
namespace Mine
noncomputable abbrev rngO (a b c : Int) (x : Nat → Nat) : Obj := { cls := .type "range", data := .fields #[.int a (x 0), .int b (x 1), .int c (x 2)] }
noncomputable abbrev Rv.rng (a b c : Int) : Rv := .ob (rngO a b c)
noncomputable def tok3 (a b c : Nat) : Nat → Nat
  | 0 => a
  | 1 => b
  | _ => c
structure ItT (t : Expr) (r : Rv) (rs : List Rv) : Prop where
  run : ∀ {c : Fc} {env : Env} {Γ : Gm} {xt mu fz : Led} {m mm : Str → Option Value} {s : Shared} {Q : Value → Shared → Prop} {E : Value → Shared → Prop} {v : Value}, Es c env Γ xt mu fz m mm s.heap → r.Is mu fz v →
    (∀ h' P St fx, (∀ b o, s.heap.get? b = some o → h'.get? b = some o) → Itr PySem.Challenge.pw_kq0058_01 c.w c.A t s.heap.objs.size [s.heap.objs.size] fx rs.length P St → St 0 h' → (∀ p ∈ fx, p ∈ fz) →
      (∀ i v h, P i v h → ∀ r, rs[i]? = some r → ∀ mu, r.At mu fz h v) → Q (.ref s.heap.objs.size) { s with heap := h' }) → wpAny c.M c.A (pyIter v) Q E s
theorem ItT.list {t : Expr} {ds : List Dat} (ht : (∃ x p, t = .Name x p) ∨ ∃ es k p, t = .Tuple es k p) (hd : (∃ x p, t = .Name x p) ∨ ∀ d ∈ ds, ∃ l, d = .tuple l) : ItT t (.d (.list ds)) (ds.map .d) := by
  constructor
  intro c env Γ xt mu fz m mm s Q E v S hv q
  cases hv with
  | list hm ha =>
    rename_i l vs n
    have hL : s.heap.IsList l (List.toArray vs) := ⟨_, (S.get (.inr (.inr hm))).1, rfl, n, rfl⟩
    have hlt : l < s.heap.objs.size := Heap.lt_size (S.get (.inr (.inr hm))).1
    have e : (ds.map Rv.d).length = (List.toArray vs).size := by rw [List.length_map, List.size_toArray, ha.length]
    refine wpAny_pyIter_list hL (q _ (fun i v h => (List.toArray vs)[i]? = some v ∧ h.IsListIter s.heap.objs.size l (i + 1) ∧ h.IsList l (List.toArray vs)) (fun i h => h.IsListIter s.heap.objs.size l i ∧ h.IsList l (List.toArray vs))
      [(l, lstO (List.toArray vs) n)] (fun b o e => Heap.get?_push_of_some _ e) ?_ ⟨⟨_, Heap.get?_push_size _ rfl, rfl, rfl⟩, hL.push _⟩ (fun p hp => by rw [List.mem_singleton.mp hp]; exact hm) ?_)
    · rw [e]
      refine itr_list rfl (Nat.ne_of_lt hlt) (nn := n) fun i v s Q E st q2 => ?_
      rcases ht with ⟨x, p, rfl⟩ | ⟨es, k, p, rfl⟩
      · exact wpAny_pure q2
      · cases v with
        | ref T => exact wpAny_letOwnedTupleGo_listiter st q2
        | _ => exact wpAny_pure q2
    · intro i v h hP r hr mu
      rw [List.getElem?_map, Option.map_eq_some_iff] at hr
      obtain ⟨d, hd', rfl⟩ := hr
      obtain ⟨hi, rfl⟩ := List.getElem?_eq_some_iff.mp hd'
      obtain ⟨w, h1, h2⟩ := ha.get hi
      have h3 : (List.toArray vs)[i]? = some v := hP.1
      rw [List.getElem?_toArray, h1] at h3
      cases h3
      exact .inl h2
theorem ItT.walks {x : Str} {px : Pos} {r : Rv} {rs : List Rv} {I : Nat → Nat} (h : ∀ {c : Fc} {env : Env} {Γ : Gm} {xt mu fz : Led} {m mm : Str → Option Value} {s : Shared} {Q : Value → Shared → Prop} {E : Value → Shared → Prop} {v : Value}, Es c env Γ xt mu fz m mm s.heap → r.Is mu fz v →
    (∀ h' (P : Nat → Value → Prop) St, (∀ b o, s.heap.get? b = some o → h'.get? b = some o) → Walks PySem.Challenge.pw_kq0058_01 c.w c.A s.heap.objs.size [s.heap.objs.size] [s.heap.objs.size] rs.length P St → (∀ i h, St i h → ∃ o, h.get? s.heap.objs.size = some o) → St 0 h' →
      (∀ i v, P i v → ∀ r, rs[i]? = some r → ∀ mu, r.Is mu fz v) → Q (.ref s.heap.objs.size) { s with heap := h' }) → wpAny c.M c.A (pyIter v) Q E s) : ItT (.Name x px) r rs := by
  constructor
  intro cc env Γ xt mu fz m mm s Q E v S hv q
  exact h S hv fun h' P St hk W hI h0 hP => q h' _ St [] hk (itr_walks (fx := []) W (fun b hb => .inl (List.mem_singleton.mp hb)) hI) h0 (fun _ h => nomatch h) fun i v h hp r hr mu => .inl (hP i v hp.1 r hr mu)
theorem ItT.range {x : Str} {px : Pos} {a b c : Int} {n : Nat} (hs : Builtin.Range.small a b c = true) (hn : Builtin.Range.rangeSize a b c = ((n : Nat) : Int)) : ItT (.Name x px) (.rng a b c) ((List.range n).map fun (i : Nat) => Rv.d (.int (a + (i : Int) * c))) := by
  refine ItT.walks (I := id) fun {cc env Γ xt mu fz m mm s Q E v} S hv q => ?_
  obtain ⟨l, tk, rfl, hm⟩ := hv
  have g := (S.get (.inr (.inr hm))).1
  have e : ((List.range n).map fun (i : Nat) => Rv.d (.int (a + (i : Int) * c))).length = n := by rw [List.length_map, List.length_range]
  refine wpAny_pyIter_range (a := a) (b := b) (c := c) g hs (q _ _ _ (fun b o e => Heap.get?_push_of_some _ e) (by rw [e]; exact Walks.range rfl s.heap.objs.size a c n) (fun i h st => ⟨_, st⟩) (by show IsRangeIter _ _ _ _ _; rw [hn]; simpa using Heap.get?_push_size _ rfl) ?_)
  rintro i v ⟨t, rfl⟩ r hr mu
  rw [List.getElem?_map, Option.map_eq_some_iff] at hr
  obtain ⟨j, hj, rfl⟩ := hr
  obtain ⟨hi, rfl⟩ := List.getElem?_eq_some_iff.mp hj
  rw [List.getElem_range]
  exact .int _ _
theorem ItT.bytes {x : Str} {px : Pos} {b : Array UInt8} {ks : List Int} (hk : KBw.bInts b = ks) : ItT (.Name x px) (.d (.bytes b)) (ks.map fun k => Rv.d (.int k)) := by
  refine ItT.walks (I := id) fun {cc env Γ xt mu fz m mm s Q E v} S hv q => ?_
  cases hv with
  | bytes _ t =>
    have e : (ks.map fun k => Rv.d (.int k)).length = b.size := by rw [List.length_map, ← hk, KBw.ints_length]
    refine KBw.pyIter_bytes (q _ (fun i v => ∃ c u, b[i]? = some c ∧ v = .int (c.toNat : Int) u) (fun i h => KBw.IsBytesIter h s.heap.objs.size b t i) (fun b o e => Heap.get?_push_of_some _ e) (by rw [e]; exact KBw.walks rfl s.heap.objs.size b t) (fun i h st => let ⟨o, ho, _⟩ := st; ⟨o, ho⟩) ⟨_, Heap.get?_push_size _ rfl, rfl, rfl⟩ ?_)
    rintro i v ⟨c, u, hc, rfl⟩ r hr mu
    rw [List.getElem?_map, Option.map_eq_some_iff] at hr
    obtain ⟨j, hj, rfl⟩ := hr
    have e2 : (KBw.bInts b)[i]? = some (c.toNat : Int) := by
      unfold KBw.bInts
      rw [List.getElem?_map, Array.getElem?_toList, hc]
      rfl
    rw [hk, hj] at e2
    cases e2
    exact .int _ _
theorem ItT.signs {x : Str} {px : Pos} {l : List Nat} (ha : ∀ c ∈ l, c < 128) : ItT (.Name x px) (.d (.str (S l))) (l.map fun k => Rv.d (.str (S [k]))) := by
  refine ItT.walks (I := id) fun {cc env Γ xt mu fz m mm s Q E v} S' hv q => ?_
  obtain ⟨t, rfl⟩ := DatIn.strE hv
  have e : (l.map fun k => Rv.d (.str (S [k]))).length = (S l).cps.size := by simp
  refine wpAny_pyIter_ascii (by simpa using ha) (q _ (SignAt (S l)) (fun i h => h.IsStrIter s.heap.objs.size "str_ascii_iterator" (S l) t i) (fun b o e => Heap.get?_push_of_some _ e) (by rw [e]; exact Walks.strAscii (A := cc.A) rfl s.heap.objs.size (S l) t) (fun i h st => let ⟨o, ho, _⟩ := st; ⟨o, ho⟩) ⟨_, Heap.get?_push_size _ rfl, rfl, rfl⟩ ?_)
  rintro i v ⟨c, t', hc, rfl⟩ r hr mu
  rw [List.getElem?_map, Option.map_eq_some_iff] at hr
  obtain ⟨j, hj, rfl⟩ := hr
  have : c = j := by
    have hc' : l[i]? = some c := by simpa using hc
    rw [hj] at hc'; exact (Option.some.inj hc').symm
  subst this
  exact .str _ _
section
variable {c : Fc} {Γ Γ' : Gm} {pos : Pos} {e t : Expr} {b : List Stmt} {r : Rv} {rs : List Rv}
structure ItX (c : Fc) (env : Env) (Γ : Gm) (e t : Expr) (rs : List Rv) : Prop where
  run : ∀ {xt mu fz : Led} {m mm : Str → Option Value} {s : Shared} {Q : Value → Shared → Prop} {E : Value → Shared → Prop}, Es c env Γ xt mu fz m mm s.heap →
    (∀ fz' tb h' tk I as fx P St, (∀ p ∈ fz, p ∈ fz') → Es c env Γ xt mu fz' m mm h' → Tb c.q tb → News c.g c.L h' (xt ++ (mu ++ (tb ++ fz'))) → Itr PySem.Challenge.pw_kq0058_01 c.w c.A t I as fx rs.length P St → St 0 h' → (∀ b ∈ as, c.g.get? b = none ∧ b ≠ c.L) → as.Nodup →
      (∀ p ∈ xt ++ (mu ++ (tb ++ fz')), p.1 ∉ as) → (∀ p ∈ fx, p ∈ fz') → (∀ i v h, P i v h → ∀ r, rs[i]? = some r → ∀ mu, r.At mu fz' h v) → Q (.ref I) { s with heap := h', toks := tk }) →
    wpAny c.M c.A (eval e env) (fun v s₁ => wpAny c.M c.A (pyIter v) Q E s₁) E s
theorem ItX.of {env : Env} (h : EvT c env Γ e r) (hi : ItT t r rs) : ItX c env Γ e t rs := by
  constructor
  intro xt mu fz m mm s Q E S q
  refine h.run xt mu fz m mm s _ E S fun v f1 h1 k1 s1 S1 v1 => hi.run (s := { s with heap := h1, toks := k1 }) S1 v1 fun h' P St fx hk T hst hfx hP => ?_
  obtain ⟨tb, hT, N⟩ := S1.N
  exact q f1 tb h' k1 _ _ fx P St s1 (S1.move (S1.F.keeps hk) ⟨tb, hT, N.grown hk⟩) hT (N.grown hk) T hst (fun b hb => by rw [List.mem_singleton.mp hb]; exact ⟨next_is_new S1.F, Ne.symm (Nat.ne_of_lt S1.F.ns.lt)⟩) (List.nodup_cons.mpr ⟨List.not_mem_nil, List.nodup_nil⟩)
    (fun p hp hq => Nat.ne_of_lt (Heap.lt_size (N p hp).1) (List.mem_singleton.mp hq)) hfx hP
theorem StT.forX (h : ItX c c.env Γ e t rs) (hf : FoT c t b rs Γ Γ') (hs : ∀ x, foldedSetIterable e c.env x = pure x := by intro _; rfl) : StT c Γ (.For t e b [] pos) Γ' .next := by
  refine ⟨fun xt mu fz m s Q E S q => ?_⟩
  refine wpAny_For (h.run S fun f1 tb h' k1 I as fx P St s1 S1 hT N T hst has hnd off hfx hP => ?_) hs
  exact For_T (s := { s with heap := h', toks := k1 }) T hst S1 hT N has hnd off hfx hP hf fun mu' fz' m' h' tk sub S' => q _ mu' fz' m' h' tk (fun p hp => sub p (s1 p hp)) S' rfl
theorem StT.for (h : EvT c c.env Γ e r) (hi : ItT t r rs) (hf : FoT c t b rs Γ Γ') (hs : ∀ x, foldedSetIterable e c.env x = pure x := by intro _; rfl) : StT c Γ (.For t e b [] pos) Γ' .next := StT.forX (ItX.of h hi) hf hs
inductive WhT (c : Fc) (t : Expr) (b : List Stmt) : Nat → Gm → Gm → Prop
  | done {n : Nat} {Γ : Gm} : TsT c c.env Γ t false → WhT c t b n Γ Γ
  | step {n : Nat} {Γ Γ₁ Γ' : Gm} {fl : Fl2} : TsT c c.env Γ t true → BdT c Γ b Γ₁ fl → (fl = .next ∨ fl = .cont) → WhT c t b n Γ₁ Γ' → WhT c t b (n + 1) Γ Γ'
  | brk {n : Nat} {Γ Γ' : Gm} : TsT c c.env Γ t true → BdT c Γ b Γ' .brk → WhT c t b n Γ Γ'
theorem StT.whl {n : Nat} (h : WhT c t b n Γ Γ') : StT c Γ (.While t b [] pos) Γ' .next := by
  refine ⟨fun xt mu fz m s Q E S q => ?_⟩
  refine wpAny_While (codeAny_whileLoop (fun k s' => ∃ Γi mu' fz' m' h' tk, s' = { s with heap := h', toks := tk } ∧ WhT c t b k Γi Γ' ∧ (∀ p ∈ fz, p ∈ fz') ∧ Es c c.env Γi xt mu' fz' m' m' h') ?_ n ⟨Γ, mu, fz, m, s.heap, s.toks, rfl, h, fun _ h => h, S⟩)
  rintro k s' ⟨Γi, mu', fz', m', h', tk, rfl, hw, sub, S'⟩
  cases hw with
  | done ht =>
    refine ht.run xt mu' fz' m' m' { s with heap := h', toks := tk } _ _ S' fun f1 h1 k1 s1 S1 => ?_
    rw [if_neg Bool.false_ne_true]
    exact wpAny_execs_nil (q _ mu' f1 m' h1 k1 (fun p hp => s1 p (sub p hp)) S1 rfl)
  | brk ht hb =>
    refine ht.run xt mu' fz' m' m' { s with heap := h', toks := tk } _ _ S' fun f1 h1 k1 s1 S1 => ?_
    rw [if_pos rfl]
    refine hb.run xt mu' f1 m' { s with heap := h1, toks := k1 } _ _ S1 fun f m2 f2 mm2 h2 k2 s2 S2 e2 => ?_
    cases e2
    exact q _ m2 f2 mm2 h2 k2 (fun p hp => s2 p (s1 p (sub p hp))) S2 rfl
  | step ht hb hfl hn =>
    refine ht.run xt mu' fz' m' m' { s with heap := h', toks := tk } _ _ S' fun f1 h1 k1 s1 S1 => ?_
    rw [if_pos rfl]
    refine hb.run xt mu' f1 m' { s with heap := h1, toks := k1 } _ _ S1 fun f m2 f2 mm2 h2 k2 s2 S2 e2 => ?_
    rcases hfl with rfl | rfl
    · cases e2; exact ⟨_, Nat.lt_succ_self _, _, m2, f2, mm2, h2, k2, rfl, hn, fun p hp => s2 p (s1 p (sub p hp)), S2⟩
    · cases e2; exact ⟨_, Nat.lt_succ_self _, _, m2, f2, mm2, h2, k2, rfl, hn, fun p hp => s2 p (s1 p (sub p hp)), S2⟩
end
end Mine
end
section
open PySem PySem.W PySem.W.X PyProof.Rows PyProof.Rows.LCg PySem.Builtin.Str
set_option maxRecDepth 100000
set_option Elab.async false
namespace Mine
inductive Bi : Expr → Rv → List (Str × Rv) → Prop
  | name {x : Str} {p : Pos} {r : Rv} : r.nz = true → Bi (.Name x p) r [(x, r)]
  | pair {x y : Str} {px py tp : Pos} {k : Nat} {d1 d2 : Dat} : x ≠ y → Bi (.Tuple [.Name x px, .Name y py] k tp) (.d (.tuple [d1, d2])) [(x, .d d1), (y, .d d2)]
  | zip {x y : Str} {px py tp : Pos} {k : Nat} {e1 e2 : El} : x ≠ y → Bi (.Tuple [.Name x px, .Name y py] k tp) (.zp e1 e2) [(x, e1.rv), (y, e2.rv)]
noncomputable def bd : List (Str × Rv) → Gm → Gm
  | [], Γ => Γ
  | p :: bs, Γ => fun y => if y = p.1 then some p.2 else bd bs Γ y
noncomputable def TeT (c : Fc) (env : Env) (Γ : Gm) (ifs : List Expr) (b : Bool) : Prop := (ifs = [] ∧ b = true) ∨ ∃ e, ifs = [e] ∧ TsT c env Γ e b
noncomputable def CuT (c : Fc) (env : Env) (Γf : Gm) (t elt : Expr) (ifs : List Expr) (scope : Scope) (cl : List (Str × Addr)) (r : Rv) : Option Dat → Prop
  | none => ∀ C, ∃ bs, Bi t r bs ∧ TeT c (compEnvC scope cl C env) (bd bs Γf) ifs false
  | some d => ∀ C, ∃ bs, Bi t r bs ∧ TeT c (compEnvC scope cl C env) (bd bs Γf) ifs true ∧ EvT c (compEnvC scope cl C env) (bd bs Γf) elt (.d d)
inductive CoT (turn : Rv → Option Dat → Prop) : List Rv → List Dat → Prop
  | nil : CoT turn [] []
  | skip {r : Rv} {rs : List Rv} {ds : List Dat} : turn r none → CoT turn rs ds → CoT turn (r :: rs) ds
  | take {r : Rv} {rs : List Rv} {d : Dat} {ds : List Dat} : turn r (some d) → CoT turn rs ds → CoT turn (r :: rs) (d :: ds)
structure Cap (env : Env) (scope : Scope) (cl : List (Str × Addr)) (Γ Γf : Gm) : Prop where
  cell : ∀ y r, Γf y = some r → Γ y = some r ∧ r.free = true ∧ (y == ("__debug__" : Str)) = false ∧ (∃ a, env.kindOf y = some .cell ∧ env.cells.lookup y = some a ∧ cl.lookup y = some a) ∧ ∀ C, (compEnvC scope cl C env).kindOf y = some .cell
  sub : ∀ y a, cl.lookup y = some a → env.cells.lookup y = some a ∧ env.kindOf y = some .cell
theorem Bi.free {t : Expr} {r : Rv} {bs : List (Str × Rv)} (h : Bi t r bs) : ∀ p ∈ bs, p.2.free = true := by
  intro p hp
  cases h with
  | @name x q r hf => rw [List.mem_singleton.mp hp]; cases r <;> first | rfl | cases hf
  | @zip x y px py tp k e1 e2 _ =>
    rcases List.mem_cons.mp hp with rfl | hp
    · cases e1 <;> rfl
    · rw [List.mem_singleton.mp hp]; cases e2 <;> rfl
  | pair _ =>
    rcases List.mem_cons.mp hp with rfl | hp
    · rfl
    · rw [List.mem_singleton.mp hp]; rfl
theorem bd_inv {Γf : Gm} {y : Str} {r : Rv} : ∀ {bs : List (Str × Rv)}, bd bs Γf y = some r → (y, r) ∈ bs ∨ Γf y = some r
  | [], h => .inr h
  | p :: bs, h => by
    unfold bd at h
    by_cases e : y = p.1
    · rw [if_pos e] at h; cases h; exact .inl (e ▸ .head _)
    · rw [if_neg e] at h
      exact (bd_inv h).imp (fun h => .tail _ h) id
inductive BAll (fz : Led) : List (Str × Rv) → List (Str × Value) → Prop
  | nil : BAll fz [] []
  | cons {x : Str} {r : Rv} {v : Value} {bs : List (Str × Rv)} {vs : List (Str × Value)} : (∀ mu, r.Is mu fz v) → BAll fz bs vs → BAll fz ((x, r) :: bs) ((x, v) :: vs)
theorem BAll.at {fz : Led} {y : Str} {r : Rv} {bs : List (Str × Rv)} {vs : List (Str × Value)} (h : BAll fz bs vs) (hm : (y, r) ∈ bs) : ∃ v, (y, v) ∈ vs ∧ ∀ mu, r.Is mu fz v := by
  induction h with
  | nil => cases hm
  | cons h1 _ ih =>
    rcases List.mem_cons.mp hm with e | hm
    · cases e; exact ⟨_, .head _, h1⟩
    · obtain ⟨v, h3, h4⟩ := ih hm
      exact ⟨v, .tail _ h3, h4⟩
theorem BAll.mono {fz fz' : Led} (hs : ∀ p ∈ fz, p ∈ fz') {bs : List (Str × Rv)} {vs : List (Str × Value)} (h : BAll fz bs vs) : BAll fz' bs vs := by
  induction h with
  | nil => exact .nil
  | cons h1 _ ih => exact .cons (fun mu => (h1 mu).mono hs) ih
section
variable {c : Fc} {env : Env} {Γ Γf : Gm} {scope : Scope} {cl : List (Str × Addr)} {xt mu fz tb : Led} {m mm m₂ : Str → Option Value} {C : Addr} {oC : Obj} {ow : Led} {as : List Addr} {D : Addr} {oD : Obj}
theorem EsP.comp {bs : List (Str × Rv)} {vs : List (Str × Value)} (P : EsP c env Γ xt mu fz m mm) (hcap : Cap env scope cl Γ Γf) (T : Tb c.q tb) (how : ow.map (·.1) = as) (hnd : as.Nodup) (off : ∀ p ∈ xt ++ (mu ++ (tb ++ fz)), p.1 ∉ as ∧ p.1 ≠ C ∧ p.1 ≠ D) (hCa : C ∉ as) (hDa : D ∉ as) (hCD : C ≠ D)
    (hoC : NsObj oC m₂) (hB : BAll fz bs vs) (hvs : ∀ p ∈ vs, m₂ p.1 = some p.2) (hfree : ∀ p ∈ bs, p.2.free = true) (hloc : ∀ p ∈ bs, (compEnvC scope cl C env).kindOf p.1 = some .local ∧ (p.1 == ("__debug__" : Str)) = false) :
    EsP c (compEnvC scope cl C env) (bd bs Γf) (ow ++ (C, oC) :: (D, oD) :: xt) mu fz m m₂ := by
  have emap : ((ow ++ (C, oC) :: (D, oD) :: xt) ++ mu).map (·.1) = as ++ C :: D :: (xt ++ mu).map (·.1) := by simp [how]
  have hin : ∀ {b : Addr}, b ∈ (xt ++ mu).map (·.1) → b ∉ as ∧ b ≠ C ∧ b ≠ D := fun {b} hb => by
    obtain ⟨q, hq, rfl⟩ := List.mem_map.mp hb
    exact off q (by rcases List.mem_append.mp hq with h | h <;> simp [h])
  refine ⟨?_, fun p hp hq => ?_, fun p hp => ?_, .inr ⟨oC, List.mem_append_right _ (.head _), hoC⟩, fun y r e => ?_, fun y a h1 h2 => ?_, fun y z ay az ly lz u ey ez ny nz => ?_⟩
  · rw [emap, List.nodup_append]
    refine ⟨hnd, List.nodup_cons.mpr ⟨fun h => ?_, List.nodup_cons.mpr ⟨fun h => (hin h).2.2 rfl, P.nd⟩⟩, fun a ha b hb e => ?_⟩
    · rcases List.mem_cons.mp h with h | h
      · exact hCD h
      · exact (hin h).2.1 rfl
    · subst e
      rcases List.mem_cons.mp hb with h | hb
      · exact hCa (h ▸ ha)
      · rcases List.mem_cons.mp hb with h | hb
        · exact hDa (h ▸ ha)
        · exact (hin hb).1 ha
  · rw [emap] at hq
    have z := off p (by simp [hp])
    rcases List.mem_append.mp hq with hq | hq
    · exact z.1 hq
    · rcases List.mem_cons.mp hq with h | hq
      · exact z.2.1 h
      · rcases List.mem_cons.mp hq with h | hq
        · exact z.2.2 h
        · exact P.of p hp hq
  · have tbs : ∀ {a : Addr}, (∀ q ∈ tb, q.1 ≠ a) → a ∉ tabs := fun {a} h ht => by
      obtain ⟨o, ho⟩ := T.mem _ ht
      exact h _ ho rfl
    rw [List.append_assoc] at hp
    rcases List.mem_append.mp hp with hp | hp
    · exact tbs fun q hq e => (off q (by simp [hq])).1 (e ▸ how ▸ List.mem_map_of_mem (f := (·.1)) hp)
    · rcases List.mem_cons.mp hp with rfl | hp
      · exact tbs fun q hq => (off q (by simp [hq])).2.1
      · rcases List.mem_cons.mp hp with rfl | hp
        · exact tbs fun q hq => (off q (by simp [hq])).2.2
        · exact P.ot p hp
  · rcases bd_inv e with h | h
    · obtain ⟨v, h1, h2⟩ := hB.at h
      exact ⟨v, .loc (hloc _ h).1 (hloc _ h).2 (hvs _ h1), h2 mu⟩
    · obtain ⟨h1, h2, h3, ⟨a, k1, k2, k3⟩, h5⟩ := hcap.cell y r h
      obtain ⟨v, n, hv⟩ := P.lc y r h1
      cases n with
      | loc e1 => rw [k1] at e1; cases e1
      | cell e1 e2 e3 e4 e5 =>
        rw [k2] at e3; cases e3
        exact ⟨v, .cell (h5 C) h3 k3 e4 e5, hv⟩
  · obtain ⟨h3, h4⟩ := hcap.sub y a h2
    exact P.ce y a h4 h3
  · exfalso
    rcases bd_inv ey with h | h
    · have := hfree _ h; cases this
    · have := (hcap.cell y _ h).2.1; cases this
end
end Mine
end
section
open PySem PySem.W PySem.W.X PyProof.Rows PyProof.Rows.LCg PySem.Builtin.Str
set_option maxRecDepth 100000
set_option Elab.async false
namespace Mine
noncomputable def tNames : Expr → List Str
  | .Name x _ => [x]
  | .Tuple [.Name x _, .Name y _] _ _ => [x, y]
  | _ => []
theorem Bi.names {t : Expr} {r : Rv} {bs : List (Str × Rv)} (h : Bi t r bs) : ∀ p ∈ bs, p.1 ∈ tNames t := by
  cases h with
  | name _ => intro p hp; rw [List.mem_singleton.mp hp]; exact .head _
  | zip _ =>
    intro p hp
    rcases List.mem_cons.mp hp with rfl | hp
    · exact .head _
    · rw [List.mem_singleton.mp hp]; exact .tail _ (.head _)
  | pair _ =>
    intro p hp
    rcases List.mem_cons.mp hp with rfl | hp
    · exact .head _
    · rw [List.mem_singleton.mp hp]; exact .tail _ (.head _)
inductive CoJ (c : Fc) (env : Env) (Γ : Gm) (turn : Rv → Option Dat → Prop) (rs : List Rv) (ds : List Dat) (xt mu fz : Led) (m mm : Str → Option Value) (i : Nat) (ys : List Value) (led : Led) : Prop
  | mk (tb' fz' : Led) (ds1 ds2 : List Dat) : Tb c.q tb' → led = xt ++ (mu ++ (tb' ++ fz')) → (∀ p ∈ fz, p ∈ fz') → ds = ds1 ++ ds2 → DatAll fz' ys ds1 → ds1.length ≤ i → CoT turn (rs.drop i) ds2 → EsP c env Γ xt mu fz' m mm → CoJ c env Γ turn rs ds xt mu fz m mm i ys led
section
variable {c : Fc} {env : Env} {Γ Γf : Gm} {scope : Scope} {cl : List (Str × Addr)} {xt mu fz tb : Led} {m mm : Str → Option Value} {s : Shared} {E : Value → Shared → Prop} {t elt iter : Expr} {ifs : List Expr} {pos : Pos} {rs : List Rv} {ds : List Dat} {I : Addr} {as : List Addr} {fx : Led}
  {P : Nat → Value → Heap → Prop} {St : Nat → Heap → Prop} {RR : Value → Addr → Result → Shared → Prop}
theorem DatIn.tupE {a : Dat} {b : Dat} {v : Value} (h : DatIn fz v (.tuple [a, b])) : ∃ T x y n, v = .ref T ∧ (T, ({ cls := .type "tuple", data := .seq #[x, y] n } : Obj)) ∈ fz ∧ DatIn fz x a ∧ DatIn fz y b := by
  cases h with
  | tuple hm ha =>
    cases ha with
    | cons a1 ha => cases ha with
      | cons a2 ha => cases ha with
        | nil => exact ⟨_, _, _, _, rfl, hm, a1, a2⟩
theorem Comp_T (T : Itr PySem.Challenge.pw_kq0058_01 c.w c.A t I as fx rs.length P St) (hst : St 0 s.heap) (S : Es c env Γ xt mu fz m mm s.heap) (hT : Tb c.q tb) (N : News c.g c.L s.heap (xt ++ (mu ++ (tb ++ fz)))) (has : ∀ b ∈ as, c.g.get? b = none ∧ b ≠ c.L) (hnd : as.Nodup)
    (off : ∀ p ∈ xt ++ (mu ++ (tb ++ fz)), p.1 ∉ as) (hfx : ∀ p ∈ fx, p ∈ fz) (hP : ∀ i v h, P i v h → ∀ r, rs[i]? = some r → ∀ mu, r.At mu fz h v) (hsz : rs.length ≤ 1000000) (hcell : ∀ y ∈ scope.names, y.2 ≠ .cell) (hkind : scope.kind = .function)
    (hcap : Cap env scope cl Γ Γf) (hloc : ∀ x ∈ tNames t, scope.names.lookup x = some .local ∧ (x == ("__debug__" : Str)) = false) (hco : CoT (CuT c env Γf t elt ifs scope cl) rs ds)
    (hRR : ∀ D C h tk m' ys led, Fr c.g c.L h m → News c.g c.L h ((D, lst ys) :: led) → (∀ p ∈ led, p.1 ≠ C ∧ p.1 ≠ D) → h.Ns C m' → c.g.get? C = none → C ≠ c.L → C ≠ D → CoJ c env Γ (CuT c env Γf t elt ifs scope cl) rs ds xt mu fz m mm rs.length ys led → RR (.ref D) C (.ok .next) { s with heap := h, toks := tk }) :
    wpAny c.M c.A (newList []) (fun acc s₃ => wpAny c.M c.A (newFunctionEnv scope env.globals cl [] env.qual none .none (some env)) (fun cenv s₄ =>
      codeAny c.M c.A (.compStart (.ListComp elt [⟨t, iter, ifs, 0⟩] scope pos) 0 (.ref I) acc { cenv with scope := relabel scope env }) (RR acc cenv.locals) s₄) E s₃) E s := by
  refine Comp_B (J := CoJ c env Γ (CuT c env Γf t elt ifs scope cl) rs ds xt mu fz m mm) (B := fun i led bs => ∃ r rb, rs[i]? = some r ∧ Bi t r rb ∧ BAll fz rb bs)
    ⟨T, by rw [sizeLine_eq]; lia, has, fun i ys led hJ p hp => ?_, fun i ys led hJ => ?_, ?_, ?_⟩ hcell hkind hst S.F N off ⟨tb, fz, [], ds, hT, rfl, fun _ h => h, rfl, .nil, Nat.le_refl _, hco, S.pure⟩ hRR
  · obtain ⟨tb', fz', ds1, ds2, hT', rfl, sub, e, hd, hl, hc, hp'⟩ := hJ
    exact List.mem_append_right _ (List.mem_append_right _ (List.mem_append_right _ (sub p (hfx p hp))))
  · obtain ⟨tb', fz', ds1, ds2, hT', rfl, sub, e, hd, hl, hc, hp'⟩ := hJ
    rw [hd.length]; exact hl
  · intro i v ys led h C m' tk hi hPv hJ N' hn
    obtain ⟨tb', fz', ds1, ds2, hT', rfl, sub, e, hd, hl, hc, hp'⟩ := hJ
    have hr := List.getElem?_eq_getElem hi
    have hv := hP i v h hPv _ hr
    rw [List.drop_eq_getElem_cons hi] at hc
    have hbi : ∃ rb, Bi t rs[i] rb := by
      cases hc with
      | skip h1 _ => obtain ⟨rb, h2, _⟩ := h1 0; exact ⟨rb, h2⟩
      | take h1 _ => obtain ⟨rb, h2, _⟩ := h1 0; exact ⟨rb, h2⟩
    obtain ⟨rb, hb⟩ := hbi
    have hkn : ((compEnvC scope cl C env).scope.kind == .class || ((compEnvC scope cl C env).scope.kind == .module && (compEnvC scope cl C env).locals != (compEnvC scope cl C env).globals)) = false := by simp [compEnvC, relabel, hkind]
    generalize rs[i] = ri at *
    cases hb with
    | name hf =>
      rename_i x p
      refine ⟨[(x, v)], fun z => if z = x then some v else m' z, ⟨_, _, hr, .name hf, .cons (fun mu => (hv mu).is hf) .nil⟩, fun p hp => by rw [List.mem_singleton.mp hp]; simp, fun Q' q => ?_⟩
      exact wpAny_assign_Name (wpAny_storeName_local (lookup_relabel_local (hloc x (.head _)).1) hn (fun h₃ hn₃ hs₃ => q h₃ _ hn₃ fun c o hc e => hs₃.extBut c o hc e) hkn)
    | pair hne =>
      rename_i x y px py tp k d1 d2
      obtain ⟨T9, a, b, n9, rfl, hm, ha, hb⟩ := DatIn.tupE ((hv []).is rfl)
      refine ⟨[(x, a), (y, b)], fun z => if z = y then some b else if z = x then some a else m' z, ⟨_, _, hr, .pair hne, .cons (fun _ => ha) (.cons (fun _ => hb) .nil)⟩, fun p hp => ?_, fun Q' q => ?_⟩
      · rcases List.mem_cons.mp hp with rfl | hp
        · simp [hne]
        · rw [List.mem_singleton.mp hp]; simp
      · exact kcp_assign (env := compEnvC scope cl C env) rfl ⟨_, (N' _ (List.mem_append_right _ (List.mem_append_right _ (List.mem_append_right _ (sub _ hm))))).1, rfl, _, rfl⟩ (lookup_relabel_local (hloc x (.head _)).1) (lookup_relabel_local (hloc y (.tail _ (.head _))).1) hkn hn fun h' tk' hn' hk' => q h' tk' hn' hk'
    | zip hne =>
      rename_i x y px py tp k e1 e2
      obtain ⟨T9, a, b, rfl, hT, ha, hb⟩ := (hv []).z
      refine ⟨[(x, a), (y, b)], fun z => if z = y then some b else if z = x then some a else m' z, ⟨_, _, hr, .zip hne, .cons (fun _ => El.rvIs ha) (.cons (fun _ => El.rvIs hb) .nil)⟩, fun p hp => ?_, fun Q' q => ?_⟩
      · rcases List.mem_cons.mp hp with rfl | hp
        · simp [hne]
        · rw [List.mem_singleton.mp hp]; simp
      · exact kcp_assign (env := compEnvC scope cl C env) rfl hT (lookup_relabel_local (hloc x (.head _)).1) (lookup_relabel_local (hloc y (.tail _ (.head _))).1) hkn hn fun h' tk' hn' hk' => q h' tk' hn' hk'
  · rintro i bs ys led ow C oC D m₂ h tk hi ⟨r, rb, hr, hbi, hB⟩ hJ how hoC hbs F' N' off' hCa hDa hCD
    obtain ⟨tb', fz', ds1, ds2, hT', rfl, sub, e, hd, hl, hc, hp'⟩ := hJ
    rw [List.drop_eq_getElem_cons hi] at hc
    have hri : rs[i] = r := by rw [List.getElem?_eq_getElem hi] at hr; exact Option.some.inj hr
    rw [hri] at hc
    have same : ∀ {rb'}, Bi t r rb' → rb' = rb := fun {rb'} h => by cases h <;> cases hbi <;> rfl
    have P' := hp'.comp (bs := rb) (vs := bs) (oC := oC) (oD := lst ys) (D := D) (C := C) hcap hT' how hnd off' hCa hDa hCD hoC (hB.mono sub) hbs hbi.free fun p hp => ⟨lookup_relabel_local (hloc _ (hbi.names p hp)).1, (hloc _ (hbi.names p hp)).2⟩
    have S' : Es c (compEnvC scope cl C env) (bd rb Γf) (ow ++ (C, oC) :: (D, lst ys) :: xt) mu fz' m m₂ h := P'.es F' ⟨tb', hT', by simpa using N'⟩
    have fin : ∀ {fz₂ : Led} {h₂ : Heap} {tk₂ : Nat} {ys' : List Value} {dn : List Dat} {ds3 : List Dat}, (∀ p ∈ fz', p ∈ fz₂) → Es c (compEnvC scope cl C env) (bd rb Γf) (ow ++ (C, oC) :: (D, lst ys) :: xt) mu fz₂ m m₂ h₂ → ds = dn ++ ds3 → DatAll fz₂ ys' dn → dn.length ≤ i + 1 → CoT (CuT c env Γf t elt ifs scope cl) (rs.drop (i + 1)) ds3 →
        CpE c.g c.L m s ow as C D ys (CoJ c env Γ (CuT c env Γf t elt ifs scope cl) rs ds xt mu fz m mm (i + 1) ys') { s with heap := h₂, toks := tk₂ } := by
      intro fz₂ h₂ tk₂ ys' dn ds3 s2 S2 e2 hd2 hl2 hc2
      obtain ⟨tb₂, hT₂, N₂⟩ := S2.N
      have hnod := S2.nd
      have emap : ((ow ++ (C, oC) :: (D, lst ys) :: xt) ++ mu).map (·.1) = as ++ C :: D :: (xt ++ mu).map (·.1) := by simp [how]
      rw [emap, List.nodup_append, List.nodup_cons, List.nodup_cons] at hnod
      have offn : ∀ p ∈ xt ++ (mu ++ (tb₂ ++ fz₂)), p.1 ∉ as ∧ p.1 ≠ C ∧ p.1 ≠ D := fun p hp => by
        have key : p.1 ∉ as ++ C :: D :: [] := by
          rcases (by simpa only [List.mem_append] using hp : p ∈ xt ∨ p ∈ mu ∨ p ∈ tb₂ ∨ p ∈ fz₂) with h | h | h | h
          · intro hq
            have hx : p.1 ∈ (xt ++ mu).map (·.1) := List.mem_map_of_mem (List.mem_append_left _ h)
            rcases List.mem_append.mp hq with hq | hq
            · exact hnod.2.2 _ hq _ (.tail _ (.tail _ hx)) rfl
            · rcases List.mem_cons.mp hq with hq | hq
              · exact hnod.2.1.1 (hq ▸ .tail _ hx)
              · exact hnod.2.1.2.1 (List.mem_singleton.mp hq ▸ hx)
          · intro hq
            have hx : p.1 ∈ (xt ++ mu).map (·.1) := List.mem_map_of_mem (List.mem_append_right _ h)
            rcases List.mem_append.mp hq with hq | hq
            · exact hnod.2.2 _ hq _ (.tail _ (.tail _ hx)) rfl
            · rcases List.mem_cons.mp hq with hq | hq
              · exact hnod.2.1.1 (hq ▸ .tail _ hx)
              · exact hnod.2.1.2.1 (List.mem_singleton.mp hq ▸ hx)
          · intro hq
            have hm : ∃ q ∈ ow ++ (C, oC) :: (D, lst ys) :: xt, q.1 = p.1 := by
              rcases List.mem_append.mp hq with hq | hq
              · obtain ⟨q, h1, h2⟩ := List.mem_map.mp (how ▸ hq : p.1 ∈ ow.map (·.1)); exact ⟨q, List.mem_append_left _ h1, h2⟩
              · rcases List.mem_cons.mp hq with hq | hq
                · exact ⟨_, List.mem_append_right _ (.head _), hq.symm⟩
                · exact ⟨_, List.mem_append_right _ (.tail _ (.head _)), (List.mem_singleton.mp hq).symm⟩
            obtain ⟨q, h1, h2⟩ := hm
            exact S2.ot q (List.mem_append_left _ h1) (h2 ▸ hT₂.at p h)
          · intro hq
            refine S2.of p h ?_
            rw [emap]
            rcases List.mem_append.mp hq with hq | hq
            · exact List.mem_append_left _ hq
            · rcases List.mem_cons.mp hq with hq | hq
              · exact List.mem_append_right _ (hq ▸ .head _)
              · exact List.mem_append_right _ (List.mem_singleton.mp hq ▸ .tail _ (.head _))
        simp only [List.mem_append, List.mem_cons, List.not_mem_nil, or_false, not_or] at key
        exact key
      have PB : EsP c env Γ xt mu fz₂ m mm := by
        refine ⟨hp'.nd, fun p hp hq => S2.of p hp (by rw [emap]; exact List.mem_append_right _ (.tail _ (.tail _ hq))), fun p hp => S2.ot p ?_, hp'.hn, fun y r e => ?_, hp'.ce, hp'.sep⟩
        · rcases List.mem_append.mp hp with hp | hp
          · exact List.mem_append_left _ (List.mem_append_right _ (.tail _ (.tail _ hp)))
          · exact List.mem_append_right _ hp
        · obtain ⟨v, n1, n2⟩ := hp'.lc y r e
          exact ⟨v, n1, n2.mono s2⟩
      exact ⟨oC, m₂, xt ++ (mu ++ (tb₂ ++ fz₂)), S2.F, by simpa using N₂, hoC, offn, ⟨tb₂, fz₂, dn, ds3, hT₂, rfl, fun p hp => s2 p (sub p hp), e2, hd2, hl2, hc2, PB⟩, _, _, rfl⟩
    have tests' : ∀ {b : Bool} {Q' : Bool → Shared → Prop}, TeT c (compEnvC scope cl C env) (bd rb Γf) ifs b → (∀ fz₂ h₂ tk₂, (∀ p ∈ fz', p ∈ fz₂) → Es c (compEnvC scope cl C env) (bd rb Γf) (ow ++ (C, oC) :: (D, lst ys) :: xt) mu fz₂ m m₂ h₂ → Q' b { s with heap := h₂, toks := tk₂ }) →
        wpAny c.M c.A (tests ifs (compEnvC scope cl C env)) Q' NoE { s with heap := h, toks := tk } := by
      intro b Q' ht q'
      rcases ht with ⟨rfl, rfl⟩ | ⟨e, rfl, ht⟩
      · exact wpAny_tests_nil (q' fz' h tk (fun _ h => h) S')
      · exact wpAny_tests_one (ht.run _ mu fz' m m₂ { s with heap := h, toks := tk } _ _ S' fun f1 h1 k1 s1 S1 => q' f1 h1 k1 s1 S1)
    cases hc with
    | skip h1 h2 =>
      obtain ⟨rb', k1, k2⟩ := h1 C
      cases same k1
      refine tests' k2 fun fz₂ h₂ tk₂ s2 S2 => ?_
      rw [if_neg Bool.false_ne_true]
      exact fin s2 S2 e (DatAll.mono s2 hd) (Nat.le_succ_of_le hl) h2
    | take h1 h2 =>
      obtain ⟨rb', k1, k2, k3⟩ := h1 C
      cases same k1
      refine tests' k2 fun fz₂ h₂ tk₂ s2 S2 => ?_
      rw [if_pos rfl]
      refine k3.run _ mu fz₂ m m₂ { s with heap := h₂, toks := tk₂ } _ _ S2 fun v fz₃ h₃ tk₃ s3 S3 v3 => ?_
      rename_i d ds3
      exact fin (dn := ds1 ++ [d]) (fun p hp => s3 p (s2 p hp)) S3 (by rw [e, List.append_assoc]; rfl) ((DatAll.mono (fun p hp => s3 p (s2 p hp)) hd).append (.one v3)) (by rw [List.length_append]; exact Nat.succ_le_succ hl) h2
end
end Mine
end
section
open PySem PySem.W PySem.W.X PyProof.Rows PyProof.Rows.LCg PySem.Builtin.Str
set_option maxRecDepth 100000
set_option Elab.async false
namespace Mine
section
variable {c : Fc} {env : Env} {Γ Γf : Gm} {scope : Scope} {cl : List (Str × Addr)} {t elt iter : Expr} {ifs : List Expr} {pos p2 py spos : Pos} {r : Rv} {rs : List Rv} {ds : List Dat}
theorem CoJ.fin {xt mu fz led : Led} {m mm : Str → Option Value} {ys : List Value} {h : Heap} {D : Addr} {turn : Rv → Option Dat → Prop} (J : CoJ c env Γ turn rs ds xt mu fz m mm rs.length ys led) (N : News c.g c.L h ((D, lst ys) :: led)) (off : ∀ p ∈ led, p.1 ≠ D) :
    ∃ tb fz', Tb c.q tb ∧ (∀ p ∈ fz, p ∈ fz') ∧ DatIn fz' (.ref D) (.list ds) ∧ News c.g c.L h (xt ++ (mu ++ (tb ++ fz'))) ∧ EsP c env Γ xt mu fz' m mm := by
  obtain ⟨tb', fz', ds1, ds2, hT', rfl, sub, e, hd, hl, hc, hp'⟩ := J
  rw [List.drop_length] at hc
  cases hc
  rw [List.append_nil] at e
  subst e
  refine ⟨tb', (D, lst ys) :: fz', hT', fun p hp => .tail _ (sub p hp), .list (.head _) (DatAll.mono (fun p hp => .tail _ hp) hd), fun p hp => N p ?_, hp'.nd, fun p hp => ?_, fun p hp => ?_, hp'.hn, fun x r e => ?_, hp'.ce, hp'.sep⟩
  · simp only [List.mem_append, List.mem_cons] at hp ⊢
    rcases hp with h | h | h | h | h <;> simp [h]
  · rcases List.mem_cons.mp hp with rfl | hp
    · intro hq
      obtain ⟨q, hq, e⟩ := List.mem_map.mp hq
      exact off q (by rcases List.mem_append.mp hq with h | h <;> simp [h]) e
    · exact hp'.of p hp
  · simp only [List.mem_append, List.mem_cons] at hp
    rcases hp with h | h | h | h
    · exact hp'.ot p (by simp [h])
    · exact hp'.ot p (by simp [h])
    · rw [h]
      intro ht
      obtain ⟨o, ho⟩ := hT'.mem _ ht
      exact off (D, o) (by simp [ho]) rfl
    · exact hp'.ot p (by simp [h])
  · obtain ⟨v, h1, h2⟩ := hp'.lc x r e
    exact ⟨v, h1, h2.mono fun p hp => .tail _ hp⟩
theorem news_less {g h h' : Heap} {L C D : Addr} {oD : Obj} {led : Led} (N : News g L h ((D, oD) :: led)) (off : ∀ p ∈ led, p.1 ≠ C ∧ p.1 ≠ D) (hCD : C ≠ D) (k : Heap.SameBut C h h') : News g L h' ((D, oD) :: led) :=
  stay_off N (as := [C]) (List.forall_mem_cons.mpr ⟨fun q => hCD (List.mem_singleton.mp q).symm, fun p hp q => (off p hp).1 (List.mem_singleton.mp q)⟩) fun b o hb => k.extBut b o fun q => hb (q ▸ .head _)
theorem EvT.comp (hclos : closureFor scope env = pure cl) (hi : ItX c env Γ iter t rs) (hcap : Cap env scope cl Γ Γf) (hco : CoT (CuT c env Γf t elt ifs scope cl) rs ds) (hsz : rs.length ≤ 1000000)
    (hloc : ∀ x ∈ tNames t, scope.names.lookup x = some .local ∧ (x == ("__debug__" : Str)) = false) (hcell : ∀ y ∈ scope.names, y.2 ≠ .cell) (hnames : ∀ y ∈ scope.names, y.2 = .local → scope.names.lookup y.1 = some .local)
    (hkind : scope.kind = .function := by rfl) (hs : ∀ x, foldedSetIterable iter env x = pure x := by intro _; rfl) : EvT c env Γ (.ListComp elt [⟨t, iter, ifs, 0⟩] scope pos) (.d (.list ds)) := by
  refine ⟨fun xt mu fz m mm s Q E S q => ?_⟩
  rw [eval_ListComp]
  refine wpAny_comprehension_free (use := none) rfl hs hclos hkind hnames (hi.run S fun f1 tb h1 k1 I as fx P St s1 S1 hT N T hst has hnd off hfx hP => ?_)
  refine Comp_T (s := { s with heap := h1, toks := k1 }) T hst S1 hT N has hnd off hfx hP hsz hcell hkind hcap hloc hco fun D C h tk m' ys led F' N' off' hn hC hCL hCD J => ⟨m', hn, fun h2 k2 => ?_⟩
  obtain ⟨tb, fz', hT, sub, hD, N2, P2⟩ := J.fin (news_less N' off' hCD k2) fun p hp => (off' p hp).2
  exact q _ fz' h2 tk (fun p hp => sub p (s1 p hp)) (P2.es (F'.change k2 hCL hC) ⟨tb, hT, N2⟩) hD
theorem StT.comp {y : Str} (hclos : closureFor scope c.env = pure cl) (hi : ItX c c.env Γ iter t rs) (hcap : Cap c.env scope cl Γ Γf) (hco : CoT (CuT c c.env Γf t elt ifs scope cl) rs ds) (hsz : rs.length ≤ 1000000)
    (hloc : ∀ x ∈ tNames t, scope.names.lookup x = some .local ∧ (x == ("__debug__" : Str)) = false) (hcell : ∀ y ∈ scope.names, y.2 ≠ .cell) (hnames : ∀ y ∈ scope.names, y.2 = .local → scope.names.lookup y.1 = some .local)
    (hk : c.cs.kind = .function) (hkind : scope.kind = .function := by rfl) (hy : c.env.kindOf y = some .local := by rfl) (hd : (y == ("__debug__" : Str)) = false := by decide) (hp : (c.env.scope.kind == .class || (c.env.scope.kind == .module && c.env.locals != c.env.globals)) = false := by rfl)
    (hsw : swapsWith (.ListComp elt [⟨t, iter, ifs, 0⟩] scope pos) (some (.Name y py)) spos.line c.env = pure true := by rfl) (hs : ∀ x, foldedSetIterable iter c.env x = pure x := by intro _; rfl) :
    StT c Γ (.Assign [.Name y py] (.ListComp elt [⟨t, iter, ifs, 0⟩] scope pos) spos) (put Γ y (.d (.list ds))) .next := by
  refine ⟨fun xt mu fz m s Q E S q => ?_⟩
  rw [exec_Assign_Name_used _ _ _ _ hsw]
  refine wpAny_bind (wpAny_standAt (wpAny_bind (wpAny_bind (wpAny_mono (wpAny_comprehension_free (use := some (assign (.Name y py) c.env)) (Q := fun _ s' => Q .next s') rfl hs hclos hkind hnames
    (hi.run S fun f1 tb h1 k1 I as fx P St s1 S1 hT N T hst has hnd off hfx hP => ?_)) (fun _ _ q => wpAny_pure (wpAny_pure q)) fun _ _ e => e))))
  refine Comp_T (s := { s with heap := h1, toks := k1 }) T hst S1 hT N has hnd off hfx hP hsz hcell hkind hcap hloc hco fun D C h0 tk0 m' ys led F0 N0 off' hn hC hCL hCD J => ?_
  refine wpAny_assign_Name (wpAny_storeName_local (show c.env.kindOf y = _ from hy) F0.ns (fun h1' n1 k1' => ⟨m', hn.sameBut k1' hCL, fun h k2 => ?_⟩) hp)
  have F' := (F0.set n1 k1').change k2 hCL hC
  obtain ⟨tb, fz', hT, sub, hD, N2, P2⟩ := J.fin (news_less (N0.set k1') off' hCD k2) fun p hp => (off' p hp).2
  have hput : EsP c c.env (put Γ y (.d (.list ds))) xt mu fz' (fun z => if z = y then some (.ref D) else m z) (fun z => if z = y then some (.ref D) else m z) := by
    refine ⟨P2.nd, P2.of, P2.ot, .inl ⟨rfl, rfl⟩, fun z ry e => ?_, P2.ce, fun z z' ay az ly lz u ey ez ny nz => ?_⟩
    · by_cases q : z = y
      · subst q
        rw [put_eq] at e; cases e
        exact ⟨.ref D, .loc hy hd (if_pos rfl), hD⟩
      · rw [put_ne q] at e
        obtain ⟨u, h1, h2⟩ := P2.lc z ry e
        exact ⟨u, h1.upd q, h2⟩
    · have hyx : z ≠ y := fun q => by subst q; rw [put_eq] at ey; cases ey
      have hzx : z' ≠ y := fun q => by subst q; rw [put_eq] at ez; cases ez
      rw [put_ne hyx] at ey; rw [put_ne hzx] at ez
      exact P2.sep z z' ay az ly lz u ey ez (ny.down hyx) (nz.down hzx)
  exact q _ mu fz' _ h _ (fun p hp => sub p (s1 p hp)) (hput.es F' ⟨tb, hT, N2⟩) rfl
end
end Mine
end
section
open PySem PySem.W PySem.W.X PyProof.Rows PyProof.Rows.LCg PySem.Builtin.Str
set_option maxRecDepth 100000
set_option Elab.async false
namespace Mine
section
variable {d u : Nat} {x y : Str} {ds es : List Dat} {b : Bool}
theorem told_by {p : Prop} {b : Bool} (h : p ↔ b = true) (i : Decidable p) : @decide p i = b := by
  cases b
  · exact decide_eq_false fun q => Bool.false_ne_true (h.mp q)
  · exact decide_eq_true (h.mpr rfl)
theorem CmpT.eqL (ha : ∀ d ∈ ds, kqdOk 8 d = true) (hb : ∀ d ∈ es, kqdOk 8 d = true) (hbb : ds = es ↔ b = true) : CmpT .Eq (.d (.list ds)) (.d (.list es)) b := by
  constructor
  intro c env Γ xt mu fz m mm s Q E va vb hu S va' vb' q
  obtain ⟨_, _, _, rfl, m1, a1⟩ := DatIn.listE va'
  obtain ⟨_, _, _, rfl, m2, a2⟩ := DatIn.listE vb'
  obtain ⟨tb, _, N⟩ := S.N
  have up : ∀ p ∈ fz, p ∈ xt ++ (mu ++ (tb ++ fz)) := fun p hp => by simp [hp]
  exact kqd_eq N (up _ m1) rfl rfl a1 up (up _ m2) rfl rfl a2 up ha hb hu (by rw [told_by hbb]; exact q)
theorem CmpT.neL (ha : ∀ d ∈ ds, kqdOk 8 d = true) (hb : ∀ d ∈ es, kqdOk 8 d = true) (hbb : ds = es ↔ b = true) : CmpT .NotEq (.d (.list ds)) (.d (.list es)) (!b) := by
  constructor
  intro c env Γ xt mu fz m mm s Q E va vb hu S va' vb' q
  obtain ⟨_, _, _, rfl, m1, a1⟩ := DatIn.listE va'
  obtain ⟨_, _, _, rfl, m2, a2⟩ := DatIn.listE vb'
  obtain ⟨tb, _, N⟩ := S.N
  have up : ∀ p ∈ fz, p ∈ xt ++ (mu ++ (tb ++ fz)) := fun p hp => by simp [hp]
  exact kqd_ne N (up _ m1) rfl rfl a1 up (up _ m2) rfl rfl a2 up ha hb hu (by rw [told_by hbb]; exact q)
theorem CmpT.inS : CmpT .In (.d (.str y)) (.d (.str x)) (Txt.contains x y) := CmpT.ofS fun q => P.in_str q
theorem CmpT.ninS : CmpT .NotIn (.d (.str y)) (.d (.str x)) (!Txt.contains x y) := CmpT.ofS fun q => P.notIn_str q
theorem CallT.ofS1 {f : Value} {r : Rv} (h : ∀ {w : World} {A : Around} {s : Shared} {Q E : Value → Shared → Prop} {t : Tok}, (∀ v tk, (∀ mu fz, r.Is mu fz v) → Q v { s with toks := tk }) → wpAny (model PySem.Challenge.pw_kq0058_01 w) A (call f [.str x t]) Q E s) : CallT d u f [.d (.str x)] r := by
  constructor
  intro c env Γ xt mu fz m mm s Q E vs O S hvs q
  obtain ⟨_, rfl, h1⟩ := hvs.inv1
  obtain ⟨t, rfl⟩ := DatIn.strE h1
  exact h fun v tk e => q v fz s.heap tk (fun _ h => h) S (e _ _)
theorem CallT.ofS2 {f : Value} {r : Rv} (h : ∀ {w : World} {A : Around} {s : Shared} {Q E : Value → Shared → Prop} {t t2 : Tok}, (∀ v tk, (∀ mu fz, r.Is mu fz v) → Q v { s with toks := tk }) → wpAny (model PySem.Challenge.pw_kq0058_01 w) A (call f [.str x t, .str y t2]) Q E s) : CallT d u f [.d (.str x), .d (.str y)] r := by
  constructor
  intro c env Γ xt mu fz m mm s Q E vs O S hvs q
  obtain ⟨_, _, rfl, h1, h2⟩ := hvs.inv2
  obtain ⟨t, rfl⟩ := DatIn.strE h1
  obtain ⟨t2, rfl⟩ := DatIn.strE h2
  exact h fun v tk e => q v fz s.heap tk (fun _ h => h) S (e _ _)
theorem MethT.ofS {name : Str} {id : String} (h : ∀ {w : World} {A : Around} {s : Shared} {Q : Value × List Value → Shared → Prop} {E : Value → Shared → Prop} {t : Tok} {pl : Sem Bool}, Q (.builtin id, [.str x t]) s → wpAny (model PySem.Challenge.pw_kq0058_01 w) A (getMethod (.str x t) name pl) Q E s) : MethT (.d (.str x)) name id := by
  constructor
  intro c d u env Γ xt mu fz m mm s Q E v pl O S hv q
  obtain ⟨t, rfl⟩ := DatIn.strE hv
  exact h q
theorem MethT.isalnum : MethT (.d (.str x)) "isalnum" "str.isalnum" := MethT.ofS fun q => by with_reducible exact GM.isalnum q
theorem MethT.strip : MethT (.d (.str x)) "strip" "str.strip" := MethT.ofS fun q => by with_reducible exact GM.strip q
theorem MethT.lstrip : MethT (.d (.str x)) "lstrip" "str.lstrip" := MethT.ofS fun q => by with_reducible exact GM.lstrip q
theorem MethT.rstrip : MethT (.d (.str x)) "rstrip" "str.rstrip" := MethT.ofS fun q => by with_reducible exact GM.rstrip q
theorem MethT.startswith : MethT (.d (.str x)) "startswith" "str.startswith" := MethT.ofS fun q => by with_reducible exact GM.startswith q
theorem MethT.endswith : MethT (.d (.str x)) "endswith" "str.endswith" := MethT.ofS fun q => by with_reducible exact GM.endswith q
theorem MethT.join : MethT (.d (.str x)) "join" "str.join" := MethT.ofS fun q => by with_reducible exact GM.join q
theorem MethT.replace : MethT (.d (.str x)) "replace" "str.replace" := MethT.ofS fun q => by with_reducible exact GM.replace q
theorem CallT.isalnum : CallT d u (.builtin "str.isalnum") [.d (.str x)] (.d (.bool (Txt.isalnum x))) := CallT.ofS1 fun q => SC.isalnum (q _ _ fun _ _ => .bool _)
theorem CallT.startswith : CallT d u (.builtin "str.startswith") [.d (.str x), .d (.str y)] (.d (.bool (Txt.startswith x y))) := CallT.ofS2 fun q => SC.startswith (q _ _ fun _ _ => .bool _)
theorem CallT.endswith : CallT d u (.builtin "str.endswith") [.d (.str x), .d (.str y)] (.d (.bool (Txt.endswith x y))) := CallT.ofS2 fun q => SC.endswith (q _ _ fun _ _ => .bool _)
theorem CallT.stripC (h : x.length ≤ 1000000) : CallT d u (.builtin "str.strip") [.d (.str x), .d (.str y)] (.d (.str (Txt.stripChars x y))) := CallT.ofS2 fun q => SCL.stripChars (fun _ _ _ => q _ _ fun _ _ => .str _ _) (by rw [sizeLine_eq]; lia)
theorem CallT.lstrip (h : x.length ≤ 1000000) : CallT d u (.builtin "str.lstrip") [.d (.str x)] (.d (.str (Txt.lstrip x))) := CallT.ofS1 fun q => SCL.lstrip (fun _ _ _ => q _ _ fun _ _ => .str _ _) (by rw [sizeLine_eq]; lia)
theorem CallT.rstrip (h : x.length ≤ 1000000) : CallT d u (.builtin "str.rstrip") [.d (.str x)] (.d (.str (Txt.rstrip x))) := CallT.ofS1 fun q => SCL.rstrip (fun _ _ _ => q _ _ fun _ _ => .str _ _) (by rw [sizeLine_eq]; lia)
theorem CallT.lenS (h : x.length ≤ 1000000) : CallT d u (.builtin "len") [.d (.str x)] (.d (.int x.length)) := CallT.ofS1 fun q => P.len_str (by lia) (q _ _ fun _ _ => .int _ _)
theorem CallT.lenB {a : Array UInt8} {n : Int} (e : (a.size : Int) = n) (h : n ≤ 1000000) : CallT d u (.builtin "len") [.d (.bytes a)] (.d (.int n)) := by
  constructor
  intro c env Γ xt mu fz m mm s Q E vs O S hvs q
  subst e
  obtain ⟨_, rfl, h1⟩ := hvs.inv1
  obtain ⟨t, rfl⟩ := DatIn.bytesE h1
  exact len_bytes (by lia) (q _ fz s.heap _ (fun _ h => h) S (.int _ _))
theorem CallT.lenL (h : ds.length ≤ 10000) : CallT d u (.builtin "len") [.d (.list ds)] (.d (.int ds.length)) := by
  constructor
  intro c env Γ xt mu fz m mm s Q E vs O S hvs q
  obtain ⟨_, rfl, h1⟩ := hvs.inv1
  obtain ⟨_, _, _, rfl, hm, ha⟩ := DatIn.listE h1
  exact kun_lenL ⟨_, (S.get (.inr (.inr hm))).1, rfl, _, rfl⟩ (k := ds.length) (by rw [List.size_toArray, ha.length]) (by lia) (q _ fz s.heap _ (fun _ h => h) S (.int _ _))
theorem DatAll.ints {fz : Led} : ∀ {vs : List Value} {ns : List Int}, DatAll fz vs (ns.map .int) → IntsAre vs ns
  | _, [], h => by cases h; exact .nil
  | _, _ :: _, h => by cases h with | cons a b => cases a; exact .cons _ _ (DatAll.ints b)
theorem CallT.sum {ns : List Int} : CallT d u (.builtin "sum") [.d (.list (ns.map .int))] (.d (.int ns.sum)) := by
  constructor
  intro c env Γ xt mu fz m mm s Q E vs O S hvs q
  obtain ⟨_, rfl, h1⟩ := hvs.inv1
  obtain ⟨_, _, _, rfl, hm, ha⟩ := DatIn.listE h1
  obtain ⟨tb, T, N⟩ := S.N
  exact LSm.sum_ints S.F N rfl ⟨_, (S.get (.inr (.inr hm))).1, rfl, _, rfl⟩ (DatAll.ints ha) fun h' tk t' F' N' => q _ fz h' tk (fun _ h => h) (S.move F' ⟨tb, T, N'⟩) (.int _ _)
theorem CallT.bytesL {ns : List Int} (hr : KBa.In ns) (hz : ns.length ≤ 10000) : CallT d u (.type "bytes") [.d (.list (ns.map .int))] (.d (.bytes (byteArr ns))) := by
  constructor
  intro c env Γ xt mu fz m mm s Q E vs O S hvs q
  obtain ⟨_, rfl, h1⟩ := hvs.inv1
  obtain ⟨_, _, _, rfl, hm, ha⟩ := DatIn.listE h1
  obtain ⟨tb, T, N⟩ := S.N
  exact KBa.make_K S.F N rfl ⟨_, (S.get (.inr (.inr hm))).1, rfl, _, rfl⟩ (DatAll.ints ha) hr (by lia) fun h' t' k F' N' _ => q _ fz h' k (fun _ h => h) (S.move F' ⟨tb, T, N'⟩) (.bytes _ _)
theorem DatAll.ofInts {fz : Led} {vs : List Value} {ns : List Int} (h : IntsAre vs ns) : DatAll fz vs (ns.map .int) := by
  induction h with
  | nil => exact .nil
  | cons _ _ _ ih => exact .cons (.int _ _) ih
theorem CallT.listB {a : Array UInt8} {ks : List Int} (hk : KBw.bInts a = ks) (hz : ks.length ≤ 100) : CallT d u (.type "list") [.d (.bytes a)] (.d (.list (ks.map .int))) := by
  constructor
  intro c env Γ xt mu fz m mm s Q E vs O S hvs q
  obtain ⟨_, rfl, h1⟩ := hvs.inv1
  obtain ⟨t, rfl⟩ := DatIn.bytesE h1
  obtain ⟨tb, T, N⟩ := S.N
  exact list_bytes rfl S.F N hk hz fun D vs n h' tk F' N' l hi => q _ _ h' tk (fun p hp => .tail _ hp) (S.alloc T F' N' l) (.list (.head _) (DatAll.ofInts hi))
end
end Mine
end
section
open PySem PySem.W PySem.W.X PyProof.Rows PyProof.Rows.LCg PySem.Builtin.Str
set_option maxRecDepth 100000
set_option Elab.async false
namespace Mine
theorem Cap.nil {env : Env} {scope : Scope} {Γ : Gm} : Cap env scope [] Γ (fun _ => none) := ⟨fun _ _ h => (nomatch h), fun _ _ h => (nomatch h)⟩
theorem CoT.flt {α : Type} {turn : Rv → Option Dat → Prop} {f : α → Rv} {p : α → Bool} {g : α → Dat} : ∀ {l : List α}, (∀ a ∈ l, p a = true → turn (f a) (some (g a))) → (∀ a ∈ l, p a = false → turn (f a) none) → CoT turn (l.map f) ((l.filter p).map g)
  | [], _, _ => .nil
  | a :: l, h1, h2 => by
    have ih := CoT.flt (turn := turn) (f := f) (p := p) (g := g) (l := l) (fun b hb => h1 b (.tail _ hb)) (fun b hb => h2 b (.tail _ hb))
    rw [List.map_cons, List.filter_cons]
    cases e : p a
    · rw [if_neg (by decide)]; exact .skip (h2 a (.head _) e) ih
    · rw [if_pos rfl, List.map_cons]; exact .take (h1 a (.head _) e) ih
theorem CoT.all {α : Type} {turn : Rv → Option Dat → Prop} {f : α → Rv} {g : α → Dat} : ∀ {l : List α}, (∀ a ∈ l, turn (f a) (some (g a))) → CoT turn (l.map f) (l.map g)
  | [], _ => .nil
  | a :: l, h => .take (h a (.head _)) (CoT.all fun b hb => h b (.tail _ hb))
noncomputable def okC (scope : Scope) (t : Expr) : Bool := (tNames t).all (fun x => decide (scope.names.lookup x = some .local) && !(x == ("__debug__" : Str))) && scope.names.all (fun y => !decide (y.2 = .cell)) && scope.names.all (fun y => !decide (y.2 = .local) || decide (scope.names.lookup y.1 = some .local)) && decide (scope.kind = .function)
theorem okC_iff {scope : Scope} {t : Expr} (h : okC scope t = true) : (∀ x ∈ tNames t, scope.names.lookup x = some .local ∧ (x == ("__debug__" : Str)) = false) ∧ (∀ y ∈ scope.names, y.2 ≠ .cell) ∧ (∀ y ∈ scope.names, y.2 = .local → scope.names.lookup y.1 = some .local) ∧ scope.kind = .function := by
  unfold okC at h
  simp only [Bool.and_eq_true, List.all_eq_true, decide_eq_true_eq, Bool.or_eq_true, Bool.not_eq_true', decide_eq_false_iff_not] at h
  exact ⟨fun x hx => h.1.1.1 x hx, fun y hy => h.1.1.2 y hy, fun y hy e => (h.1.2 y hy).resolve_left fun q => q e, h.2⟩
section
variable {c : Fc} {Γ Γf : Gm} {scope : Scope} {cl : List (Str × Addr)} {t elt iter e : Expr} {ifs : List Expr} {pos p2 py px spos : Pos} {r : Rv} {rs : List Rv} {ds : List Dat} {d d1 d2 : Dat} {x y : Str}
theorem EvT.cmprX {env : Env} (hok : okC scope t = true) (hclos : closureFor scope env = pure cl) (hcap : Cap env scope cl Γ Γf) (hi : ItX c env Γ iter t rs) (hsz : rs.length ≤ 1000000) (hco : CoT (CuT c env Γf t elt ifs scope cl) rs ds)
    (hs : ∀ x, foldedSetIterable iter env x = pure x := by intro _; rfl) : EvT c env Γ (.ListComp elt [⟨t, iter, ifs, 0⟩] scope pos) (.d (.list ds)) :=
  have k := okC_iff hok
  EvT.comp hclos hi hcap hco hsz k.1 k.2.1 k.2.2.1 k.2.2.2 hs
theorem EvT.cmpr {env : Env} (hok : okC scope t = true) (hclos : closureFor scope env = pure cl) (hcap : Cap env scope cl Γ Γf) (hi : EvT c env Γ iter r) (hit : ItT t r rs) (hsz : rs.length ≤ 1000000) (hco : CoT (CuT c env Γf t elt ifs scope cl) rs ds)
    (hs : ∀ x, foldedSetIterable iter env x = pure x := by intro _; rfl) : EvT c env Γ (.ListComp elt [⟨t, iter, ifs, 0⟩] scope pos) (.d (.list ds)) := EvT.cmprX hok hclos hcap (ItX.of hi hit) hsz hco hs
theorem StT.cmprX (hok : okC scope t = true) (hclos : closureFor scope c.env = pure cl) (hcap : Cap c.env scope cl Γ Γf) (hk : c.cs.kind = .function) (hi : ItX c c.env Γ iter t rs) (hsz : rs.length ≤ 1000000) (hco : CoT (CuT c c.env Γf t elt ifs scope cl) rs ds)
    (hy : c.env.kindOf y = some .local := by rfl) (hd : (y == ("__debug__" : Str)) = false := by decide) (hp : (c.env.scope.kind == .class || (c.env.scope.kind == .module && c.env.locals != c.env.globals)) = false := by rfl)
    (hsw : swapsWith (.ListComp elt [⟨t, iter, ifs, 0⟩] scope pos) (some (.Name y py)) spos.line c.env = pure true := by rfl) (hs : ∀ x, foldedSetIterable iter c.env x = pure x := by intro _; rfl) :
    StT c Γ (.Assign [.Name y py] (.ListComp elt [⟨t, iter, ifs, 0⟩] scope pos) spos) (put Γ y (.d (.list ds))) .next :=
  have k := okC_iff hok
  StT.comp hclos hi hcap hco hsz k.1 k.2.1 k.2.2.1 hk k.2.2.2 hy hd hp hsw hs
theorem StT.cmpr (hok : okC scope t = true) (hclos : closureFor scope c.env = pure cl) (hcap : Cap c.env scope cl Γ Γf) (hk : c.cs.kind = .function) (hi : EvT c c.env Γ iter r) (hit : ItT t r rs) (hsz : rs.length ≤ 1000000) (hco : CoT (CuT c c.env Γf t elt ifs scope cl) rs ds)
    (hy : c.env.kindOf y = some .local := by rfl) (hd : (y == ("__debug__" : Str)) = false := by decide) (hp : (c.env.scope.kind == .class || (c.env.scope.kind == .module && c.env.locals != c.env.globals)) = false := by rfl)
    (hsw : swapsWith (.ListComp elt [⟨t, iter, ifs, 0⟩] scope pos) (some (.Name y py)) spos.line c.env = pure true := by rfl) (hs : ∀ x, foldedSetIterable iter c.env x = pure x := by intro _; rfl) :
    StT c Γ (.Assign [.Name y py] (.ListComp elt [⟨t, iter, ifs, 0⟩] scope pos) spos) (put Γ y (.d (.list ds))) .next :=
  StT.cmprX hok hclos hcap hk (ItX.of hi hit) hsz hco hy hd hp hsw hs
theorem CuT.n0 {env : Env} (hf : r.nz = true) (h : ∀ C, EvT c (compEnvC scope cl C env) (bd [(x, r)] Γf) elt (.d d)) : CuT c env Γf (.Name x px) elt [] scope cl r (some d) := fun C => ⟨_, .name hf, .inl ⟨rfl, rfl⟩, h C⟩
theorem CuT.nT {env : Env} (hf : r.nz = true) (h1 : ∀ C, TsT c (compEnvC scope cl C env) (bd [(x, r)] Γf) e true) (h : ∀ C, EvT c (compEnvC scope cl C env) (bd [(x, r)] Γf) elt (.d d)) : CuT c env Γf (.Name x px) elt [e] scope cl r (some d) := fun C => ⟨_, .name hf, .inr ⟨_, rfl, h1 C⟩, h C⟩
theorem CuT.nF {env : Env} (hf : r.nz = true) (h1 : ∀ C, TsT c (compEnvC scope cl C env) (bd [(x, r)] Γf) e false) : CuT c env Γf (.Name x px) elt [e] scope cl r none := fun C => ⟨_, .name hf, .inr ⟨_, rfl, h1 C⟩⟩
theorem CuT.p0 {env : Env} {tp : Pos} {k : Nat} (hn : x ≠ y) (h : ∀ C, EvT c (compEnvC scope cl C env) (bd [(x, .d d1), (y, .d d2)] Γf) elt (.d d)) : CuT c env Γf (.Tuple [.Name x px, .Name y py] k tp) elt [] scope cl (.d (.tuple [d1, d2])) (some d) := fun C => ⟨_, .pair hn, .inl ⟨rfl, rfl⟩, h C⟩
theorem CuT.pT {env : Env} {tp : Pos} {k : Nat} (hn : x ≠ y) (h1 : ∀ C, TsT c (compEnvC scope cl C env) (bd [(x, .d d1), (y, .d d2)] Γf) e true) (h : ∀ C, EvT c (compEnvC scope cl C env) (bd [(x, .d d1), (y, .d d2)] Γf) elt (.d d)) : CuT c env Γf (.Tuple [.Name x px, .Name y py] k tp) elt [e] scope cl (.d (.tuple [d1, d2])) (some d) := fun C => ⟨_, .pair hn, .inr ⟨_, rfl, h1 C⟩, h C⟩
theorem CuT.pF {env : Env} {tp : Pos} {k : Nat} (hn : x ≠ y) (h1 : ∀ C, TsT c (compEnvC scope cl C env) (bd [(x, .d d1), (y, .d d2)] Γf) e false) : CuT c env Γf (.Tuple [.Name x px, .Name y py] k tp) elt [e] scope cl (.d (.tuple [d1, d2])) none := fun C => ⟨_, .pair hn, .inr ⟨_, rfl, h1 C⟩⟩
theorem CuT.z0 {env : Env} {tp : Pos} {k : Nat} {e1 e2 : El} (hn : x ≠ y) (h : ∀ C, EvT c (compEnvC scope cl C env) (bd [(x, e1.rv), (y, e2.rv)] Γf) elt (.d d)) : CuT c env Γf (.Tuple [.Name x px, .Name y py] k tp) elt [] scope cl (.zp e1 e2) (some d) := fun C => ⟨_, .zip hn, .inl ⟨rfl, rfl⟩, h C⟩
theorem CuT.zT {env : Env} {tp : Pos} {k : Nat} {e1 e2 : El} (hn : x ≠ y) (h1 : ∀ C, TsT c (compEnvC scope cl C env) (bd [(x, e1.rv), (y, e2.rv)] Γf) e true) (h : ∀ C, EvT c (compEnvC scope cl C env) (bd [(x, e1.rv), (y, e2.rv)] Γf) elt (.d d)) : CuT c env Γf (.Tuple [.Name x px, .Name y py] k tp) elt [e] scope cl (.zp e1 e2) (some d) := fun C => ⟨_, .zip hn, .inr ⟨_, rfl, h1 C⟩, h C⟩
theorem CuT.zF {env : Env} {tp : Pos} {k : Nat} {e1 e2 : El} (hn : x ≠ y) (h1 : ∀ C, TsT c (compEnvC scope cl C env) (bd [(x, e1.rv), (y, e2.rv)] Γf) e false) : CuT c env Γf (.Tuple [.Name x px, .Name y py] k tp) elt [e] scope cl (.zp e1 e2) none := fun C => ⟨_, .zip hn, .inr ⟨_, rfl, h1 C⟩⟩
theorem EvT.cS {env : Env} {k : Nat} (l : List Nat) (h : x = S l := by decide +kernel) : EvT c env Γ (.Constant (.str x) k pos) (.d (.str (S l))) := h ▸ EvT.cstr
theorem BinT.catS {a b : List Nat} (h : a.length + b.length ≤ 1000000) : BinT .Add (.d (.str (S a))) (.d (.str (S b))) (.d (.str (S (a ++ b)))) := by
  rw [← S_app]
  exact BinT.cat (by rw [S_len]; omega) (by rw [S_len]; omega)
theorem EvT.ifB {env : Env} {f g : Expr} {b : Bool} (h : TsT c env Γ e b) (h1 : b = true → EvT c env Γ f r) (h2 : b = false → EvT c env Γ g r) : EvT c env Γ (.IfExp e f g pos) r := by
  cases b
  · exact EvT.ifF h (h2 rfl)
  · exact EvT.ifT h (h1 rfl)
theorem StT.ifB {b1 b2 : List Stmt} {b : Bool} {Γ₁ : Gm} {fl : Fl2} (h : TsT c c.env Γ e b) (h1 : b = true → BdT c Γ b1 Γ₁ fl) (h2 : b = false → BdT c Γ b2 Γ₁ fl) : StT c Γ (.If e b1 b2 pos) Γ₁ fl := by
  cases b
  · exact StT.ifF h (h2 rfl)
  · exact StT.ifT h (h1 rfl)
end
end Mine
end
section
open PySem PySem.W PySem.W.X PyProof.Rows PyProof.Rows.LCg PySem.Builtin.Str
set_option maxRecDepth 100000
set_option Elab.async false
namespace Mine
theorem lenC {n : Nat} : ∀ {vs : List Value}, vs.length = n + 1 → ∃ a ws, vs = a :: ws ∧ ws.length = n
  | a :: ws, h => ⟨a, ws, rfl, Nat.succ.inj h⟩
theorem len_one {P : List Value → Prop} (h : ∀ a, P [a]) (vs : List Value) (e : vs.length = 1) : P vs := by
  obtain ⟨a, ws, rfl, e'⟩ := lenC e
  rw [List.length_eq_zero_iff.mp e']; exact h a
theorem len_two {P : List Value → Prop} (h : ∀ a b, P [a, b]) (vs : List Value) (e : vs.length = 2) : P vs := by
  obtain ⟨a, ws, rfl, e'⟩ := lenC e
  exact len_one (P := fun l => P (a :: l)) (fun b => h a b) ws e'
theorem len_three {P : List Value → Prop} (h : ∀ a b c, P [a, b, c]) (vs : List Value) (e : vs.length = 3) : P vs := by
  obtain ⟨a, ws, rfl, e'⟩ := lenC e
  exact len_two (P := fun l => P (a :: l)) (fun b c => h a b c) ws e'
theorem cells_has {x : Str} : ∀ {l : List (Str × NameKind)} {n : Nat} {acc : List (Str × Addr)}, (acc.lookup x).isSome = true ∨ l.lookup x = some .cell → ((cellsFrom n l acc).lookup x).isSome = true
  | [], _, _, .inl h => h
  | (y, k) :: l, n, acc, h => by
    unfold cellsFrom
    by_cases q : (k == .cell) = true
    · rw [if_pos q]
      refine cells_has ?_
      rw [List.lookup_cons] at h ⊢
      cases e : x == y
      · rw [e] at h
        exact h
      · exact .inl rfl
    · rw [if_neg q]
      refine cells_has (h.imp_right fun h => ?_)
      rw [List.lookup_cons] at h
      cases e : x == y
      · rw [e] at h; exact h
      · rw [e] at h
        cases h
        exact absurd rfl q
noncomputable def okD (pn : List Str) (n : Nat) (scope : Scope) : Bool := decide pn.Nodup && decide (pn.length = n) && pn.all (fun x => (decide (scope.names.lookup x = some .local) || decide (scope.names.lookup x = some .cell)) && !(x == ("__debug__" : Str))) && decide ((cellsFrom 0 scope.names []).map (·.1)).Nodup && decide (scope.kind = .function)
section
variable {qual name : Str} {params : Arguments} {body : List Stmt} {scope : Scope} {dV kV doc pm cdv ct oc : Value} {an od : Option Addr} {osl : Array (Option Value)} {f : Addr} {as : List Rv} {r : Rv} {d u : Nat}
theorem enterD (pn : List Str) (ho : ∀ P, (hd.heap_1 P).lookup f = some ⟨oc, od, .func (fnOf name qual params body scope dV kV doc pm an cdv ct), osl⟩) (hcd : ∀ P, codeIn (hd.heap_1 P) cdv qual = true)
    (hok : okD pn as.length scope = true) (hfree : as.all Rv.free = true) (hr : r.free = true) (hco : scope.isCoroutine = false) (hgen : scope.isGenerator = false)
    (h : ∀ k : Fc, (fcOfC k qual scope f cdv).Ok d u → BdT (fcOfC k qual scope f cdv) (argG pn as) body (fun _ => none) (.ret r))
    {c : Fc} {env : Env} {Γ : Gm} {xt mu fz : Led} {m mm : Str → Option Value} {s : Shared} {Q E : Value → Shared → Prop} {vs vals : List Value} {kw : List (Str × Value)} (O : c.Ok (d + 1) (u + 3)) (S : Es c env Γ xt mu fz m mm s.heap) (hvs : RAll mu fz as vals)
    (hb : BindsTo s (fnOf name qual params body scope dV kV doc pm an cdv ct) ⟨vs, kw⟩ (pn.zip vals))
    (q : ∀ v fz' h' tk, (∀ p ∈ fz, p ∈ fz') → Es c env Γ xt mu fz' m mm h' → r.Is mu fz' v → Q v { s with heap := h', toks := tk }) : wpAny c.M c.A (call (.ref f) vs kw) Q E s := by
  unfold okD at hok
  simp only [Bool.and_eq_true, List.all_eq_true, decide_eq_true_eq, Bool.or_eq_true, Bool.not_eq_true'] at hok
  refine enterC ho hcd hok.1.1.1.1 (List.all_eq_true.mp hfree) hr (fun x hx => ?_) (fun x hx => (hok.1.1.2 x hx).2) hok.1.2 hok.2 h hco hgen O S hvs hb q
  rcases (hok.1.1.2 x hx).1 with e | e
  · exact .inl e
  · exact .inr ⟨e, fun L => Option.isSome_iff_exists.mp (cells_has (.inr e))⟩
theorem CallT.def (pn : List Str) (ho : ∀ P, (hd.heap_1 P).lookup f = some ⟨oc, od, .func (fnOf name qual params body scope dV kV doc pm an cdv ct), osl⟩) (hcd : ∀ P, codeIn (hd.heap_1 P) cdv qual = true)
    (hb : ∀ s (vs : List Value), vs.length = as.length → BindsTo s (fnOf name qual params body scope dV kV doc pm an cdv ct) ⟨vs, []⟩ (pn.zip vs)) (hok : okD pn as.length scope = true) (hfree : as.all Rv.free = true) (hr : r.free = true)
    (h : ∀ k : Fc, (fcOfC k qual scope f cdv).Ok d u → BdT (fcOfC k qual scope f cdv) (argG pn as) body (fun _ => none) (.ret r))
    (hco : scope.isCoroutine = false := by rfl) (hgen : scope.isGenerator = false := by rfl) : CallT (d + 1) (u + 3) (.ref f) as r :=
  ⟨fun O S hvs q => enterD pn ho hcd hok hfree hr hco hgen h O S hvs (hb _ _ hvs.len) q⟩
end
theorem Cap.cons {env : Env} {scope : Scope} {cl : List (Str × Addr)} {Γ Γf : Gm} {y : Str} {a : Addr} {r : Rv} (T : Cap env scope cl Γ Γf) (hy : Γ y = some r) (hf : r.free = true) (hd : (y == ("__debug__" : Str)) = false) (h1 : env.kindOf y = some .cell) (h2 : (relabel scope env).names.lookup y = some .cell) (hc : env.cells.lookup y = some a) :
    Cap env scope ((y, a) :: cl) Γ (fun z => if z = y then some r else Γf z) := by
  refine ⟨fun z q h => ?_, fun z b h => ?_⟩
  · by_cases e : z = y
    · subst e
      rw [if_pos rfl] at h; cases h
      exact ⟨hy, hf, hd, ⟨a, h1, hc, by rw [List.lookup_cons, beq_self_eq_true]⟩, fun C => h2⟩
    · rw [if_neg e] at h
      obtain ⟨e1, e2, e3, ⟨b, e4, e5, e6⟩, e7⟩ := T.cell z q h
      exact ⟨e1, e2, e3, ⟨b, e4, e5, by rw [List.lookup_cons, beq_eq_false_iff_ne.mpr e]; exact e6⟩, e7⟩
  · rw [List.lookup_cons] at h
    by_cases e : z = y
    · subst e
      rw [beq_self_eq_true] at h; cases h
      exact ⟨hc, h1⟩
    · rw [beq_eq_false_iff_ne.mpr e] at h
      exact T.sub z b h
theorem EvT.cbool {c : Fc} {env : Env} {Γ : Gm} {b : Bool} {k : Nat} {pos : Pos} : EvT c env Γ (.Constant (.bool b) k pos) (.d (.bool b)) := ⟨fun xt mu fz m mm s Q E S q => wpAny_Constant_bool (q _ fz s.heap s.toks (fun _ h => h) S (.bool _))⟩
theorem EvT.orF {c : Fc} {env : Env} {Γ : Gm} {e f : Expr} {es : List Expr} {pos : Pos} {x r : Rv} (h : EvT c env Γ e x) (ht : x.tr = some false) (hz : x.sz ≤ 1000000) (hr : EvT c env Γ (.BoolOp .Or (f :: es) pos) r) : EvT c env Γ (.BoolOp .Or (e :: f :: es) pos) r := ⟨fun xt mu fz m mm s Q E S q =>
  BoolOp_or (h.run xt mu fz m mm s _ E S fun v f1 h1 k1 s1 S1 v1 => Rv.truthy S1 v1 ht hz fun tk => by rw [if_neg Bool.false_ne_true]; exact hr.run xt mu f1 m mm _ Q E S1 fun v f2 h2 k2 s2 S2 v2 => q v f2 h2 k2 (fun p hp => s2 p (s1 p hp)) S2 v2)⟩
theorem EvT.orB {c : Fc} {env : Env} {Γ : Gm} {e f : Expr} {pos : Pos} {a b : Bool} (h : EvT c env Γ e (.d (.bool a))) (h2 : a = false → EvT c env Γ f (.d (.bool b))) : EvT c env Γ (.BoolOp .Or [e, f] pos) (.d (.bool (a || b))) := by
  cases a
  · exact EvT.orF h rfl (Nat.zero_le _) (EvT.boolOne (h2 rfl))
  · exact EvT.orT h rfl (Nat.zero_le _)
theorem EvT.andB {c : Fc} {env : Env} {Γ : Gm} {e f : Expr} {pos : Pos} {a b : Bool} (h : EvT c env Γ e (.d (.bool a))) (h2 : a = true → EvT c env Γ f (.d (.bool b))) : EvT c env Γ (.BoolOp .And [e, f] pos) (.d (.bool (a && b))) := by
  cases a
  · exact EvT.andF h rfl (Nat.zero_le _)
  · exact EvT.andT h rfl (Nat.zero_le _) (EvT.boolOne (h2 rfl))
theorem Es.rng {c : Fc} {env : Env} {Γ : Gm} {xt mu fz : Led} {m mm : Str → Option Value} {h h' : Heap} {a b k : Int} {t u v : Tok} (S : Es c env Γ xt mu fz m mm h) (hr : IsRange h' h.objs.size a b k t u v) (F' : Fr c.g c.L h' m) (hk : ∀ b o, h.get? b = some o → h'.get? b = some o) :
    Es c env Γ xt mu ((h.objs.size, rngO a b k (tok3 t u v)) :: fz) m mm h' := by
  obtain ⟨tb, T, N⟩ := S.N
  refine S.alloc T F' (fun p hp => ?_) (fun p hp => Heap.lt_size (N p hp).1)
  rcases List.mem_cons.mp hp with rfl | hp
  · exact ⟨hr, Ne.symm (Nat.ne_of_lt S.F.ns.lt), next_is_new S.F⟩
  · exact N.grown hk p hp
theorem CallT.range1 {d u : Nat} {n : Int} : CallT d u (.type "range") [.d (.int n)] (.rng 0 n 1) := by
  constructor
  intro c env Γ xt mu fz m mm s Q E vs O S hvs q
  obtain ⟨_, rfl, h1⟩ := hvs.inv1
  obtain ⟨t, rfl⟩ := DatIn.intE h1
  obtain ⟨tb, T, N⟩ := S.N
  exact range1_rows S.F N fun h' tk t1 u1 v1 hr F' _ hk => q _ _ h' tk (fun p hp => .tail _ hp) (S.rng hr F' hk) ⟨_, _, rfl, .head _⟩
theorem CallT.range3 {d u : Nat} {a b k : Int} (hk0 : k ≠ 0) (hd : Builtin.divisionGoesByPylong (b - a) k = false) : CallT d u (.type "range") [.d (.int a), .d (.int b), .d (.int k)] (.rng a b k) := by
  constructor
  intro c env Γ xt mu fz m mm s Q E vs O S hvs q
  obtain ⟨_, _, _, rfl, h1, h2, h3⟩ := hvs.inv3
  obtain ⟨t, rfl⟩ := DatIn.intE h1
  obtain ⟨t2, rfl⟩ := DatIn.intE h2
  obtain ⟨t3, rfl⟩ := DatIn.intE h3
  obtain ⟨tb, T, N⟩ := S.N
  exact range3_rows S.F N hk0 (fun h' tk t1 u1 v1 hr F' _ hk => q _ _ h' tk (fun p hp => .tail _ hp) (S.rng hr F' hk) ⟨_, _, rfl, .head _⟩) (.inl hd)
theorem noD : ∀ d ∈ ([] : List Dat), kqdOk 8 d = true := fun _ h => nomatch h
theorem kms_drop1 (zs : List Value) : kms_pick zs (some 1) none = zs.drop (1 : Int).toNat := by
  unfold kms_pick
  cases zs with
  | nil => rfl
  | cons a r =>
    rw [show kms_lo (some 1) (a :: r).length = 1 from by unfold kms_lo; simp]
    exact List.take_of_length_le (by simp [kms_hi])
theorem StT.retN {c : Fc} {Γ : Gm} {e : Expr} {pos : Pos} {r : Rv} (h : EvT c c.env Γ e r) : StT c Γ (.Return (some e) pos) (fun _ => none) (.ret r) := ExT.post (StT.ret h) fun _ _ h => nomatch h
theorem BdT.retN {c : Fc} {Γ : Gm} {e : Expr} {pos : Pos} {r : Rv} {b : List Stmt} (h : EvT c c.env Γ e r) : BdT c Γ (.Return (some e) pos :: b) (fun _ => none) (.ret r) := BdT.ret (StT.retN h)
theorem EvT.hd0 {c : Fc} {env : Env} {Γ : Gm} {x : Str} {p1 p2 p3 : Pos} {q : Nat} {d : Dat} {ds : List Dat} (hk : env.scope.kind = .function) (h : Γ x = some (.d (.list (d :: ds)))) : EvT c env Γ (.Subscript (.Name x p1) (.Constant (.int 0) q p2) p3) (.d d) :=
  EvT.itemL (EvT.cname hk h) EvT.cint (by decide) (by decide) rfl
theorem EvT.tl1 {c : Fc} {env : Env} {Γ : Gm} {x : Str} {p1 p2 p3 p4 : Pos} {q : Nat} {d : Dat} {ds : List Dat} (hk : env.scope.kind = .function) (h : Γ x = some (.d (.list (d :: ds)))) (hz : ds.length ≤ 1000) : EvT c env Γ (.Subscript (.Name x p1) (.Slice (some (.Constant (.int 1) q p2)) none none p3) p4) (.d (.list ds)) :=
  EvT.sliceLN (ds := d :: ds) (i := 1) (EvT.cname hk h) EvT.cint (by rw [List.length_cons]; lia) (by decide) (hp := kms_drop1)
theorem EvT.bltn {c : Fc} {env : Env} {Γ : Gm} {x : Str} {v : Value} {d u : Nat} {pos : Pos} (O : c.Ok d u) (e : nsIn (hd.heap_1 c.w.params) mainGlobals x = some none) (hv : bootBuiltins x = some v) (hn : x ≠ "__name__" := by decide) (hg : env.globals = mainGlobals := by rfl) (hb : env.builtins = builtinsNs := by rfl)
    (hk : env.scope.kind = .function := by rfl) (hx : env.kindOf x = some .globalImplicit := by rfl) (hd : (x == ("__debug__" : Str)) = false := by decide) : EvT c env Γ (.Name x pos) (.val v) := ⟨fun xt mu fz m mm s Q E S q =>
  Calls.Name_function_global hk hx (Calls.loadGlobal_builtin (env := env) (show s.heap.Ns env.globals c.mg from hg ▸ (O.T.keeps S.F.keep).g) (mg_none_of O.X O.T.g e) (show s.heap.Ns env.builtins c.mb from hb ▸ (O.T.keeps S.F.keep).b) ((O.T.builtins x hn).trans hv) (q v fz s.heap s.toks (fun _ h => h) S rfl)) hd⟩
theorem ItT.rangeN {x : Str} {px : Pos} {n : Int} {m : Nat} (e : n = m) (h : m ≤ 100000) : ItT (.Name x px) (.rng 0 n 1) ((List.range m).map fun (i : Nat) => Rv.d (.int i)) := by
  subst e
  have hs : Builtin.Range.rangeSize 0 (m : Int) 1 = m := by unfold Builtin.Range.rangeSize; simp <;> lia
  have hf : Builtin.Range.rangeFitsLong (m : Int) = true := by unfold Builtin.Range.rangeFitsLong; simp <;> lia
  have := ItT.range (x := x) (px := px) (a := 0) (b := m) (c := 1) (n := m) (by unfold Builtin.Range.small; rw [hs, hf]; simp [hf]; decide) hs
  simpa using this
theorem CmpT.as {op : CmpOp} {x y : Rv} {b b' : Bool} (h : CmpT op x y b) (e : b = b') : CmpT op x y b' := e ▸ h
theorem item0 (c : Nat) (cs : List Nat) : Txt.item (S (c :: cs)) 0 = S [c] := by
  have e : (Txt.charAt (S (c :: cs)) 0).getD 0 = c := by
    unfold Txt.charAt
    rw [show seqIndex? 0 (S (c :: cs)).length = some 0 from by rw [S_len]; unfold seqIndex?; simp <;> lia]
    simp
  show (⟨#[(Txt.charAt (S (c :: cs)) 0).getD 0]⟩ : Str) = _
  rw [e]
theorem EvT.hdS {c : Fc} {env : Env} {Γ : Gm} {x : Str} {p1 p2 p3 : Pos} {q a : Nat} {l : List Nat} (hk : env.scope.kind = .function) (h : Γ x = some (.d (.str (S (a :: l))))) : EvT c env Γ (.Subscript (.Name x p1) (.Constant (.int 0) q p2) p3) (.d (.str (S [a]))) :=
  EvT.as (EvT.itemS (x := S (a :: l)) (i := 0) (EvT.cname hk h) EvT.cint (by decide) (by simp) (by rw [S_len, List.length_cons]; lia)) (by rw [item0])
theorem EvT.tlS {c : Fc} {env : Env} {Γ : Gm} {x : Str} {p1 p2 p3 p4 : Pos} {q a : Nat} {l : List Nat} (hk : env.scope.kind = .function) (h : Γ x = some (.d (.str (S (a :: l))))) (hz : l.length ≤ 100000) : EvT c env Γ (.Subscript (.Name x p1) (.Slice (some (.Constant (.int 1) q p2)) none none p3) p4) (.d (.str (S l))) :=
  EvT.as (EvT.sliceSN (EvT.cname hk h) EvT.cint (by rw [S_len, List.length_cons]; lia)) (by rw [show (1 : Int) = ((1 : Nat) : Int) from rfl, slice_from _ _ (Nat.succ_le_succ (Nat.zero_le _))]; rfl)
end Mine
end
section
open PySem PySem.W PyProof.Rows PySem.Sre PySem.Builtin.Str
set_option maxRecDepth 100000
set_option Elab.async false
namespace Mine
noncomputable def joinL (g : List Nat) : List (List Nat) → List Nat
  | [] => []
  | x :: r => x ++ r.flatMap (g ++ ·)
theorem fold_S (g : List Nat) : ∀ (r : List (List Nat)) (acc : List Nat), (r.map S).foldl (fun a p => a ++ (S g).cps ++ p.cps) acc.toArray = (acc ++ r.flatMap (g ++ ·)).toArray
  | [], acc => by simp
  | x :: r, acc => by
    rw [List.map_cons, List.foldl_cons]
    have : acc.toArray ++ (S g).cps ++ (S x).cps = (acc ++ (g ++ x)).toArray := by simp
    rw [this, fold_S g r]
    simp
theorem join_S (g : List Nat) (ts : List (List Nat)) : Txt.join (S g) (ts.map S) = S (joinL g ts) := by
  unfold Txt.join glued
  cases ts with
  | nil => rfl
  | cons x r =>
    rw [List.map_cons, List.drop_one, List.tail_cons]
    show (⟨(r.map S).foldl (fun a p => a ++ (S g).cps ++ p.cps) x.toArray⟩ : Str) = _
    rw [fold_S]
    rfl
theorem joinL_nil (ts : List (List Nat)) : joinL [] ts = ts.flatten := by
  cases ts with
  | nil => rfl
  | cons x r => simp [joinL, List.flatMap]
noncomputable def wgt (os : List Int) (j : Nat) : Int := os.getD j 0 * 256 ^ (2 - j)
noncomputable def LET : Str := Str.ofString "ABCDEFGHIJKLMNOPQRSTUVWXYZabcdefghijklmnopqrstuvwxyz0123456789+/"
noncomputable def sgL : List Nat := LET.cps.toList
noncomputable def sgC (z : Int) : Nat := sgL.getD (z.fmod 64).toNat 0
noncomputable def chI (os : List Int) (top : Nat) (q : Nat) : Nat := sgC (((List.map (wgt os) (List.range os.length)).sum).fdiv (64 ^ (top - q)))
noncomputable def b64I (os : List Int) : List Nat := (List.range (os.length + 1)).map (chI os 3) ++ List.replicate (3 - os.length) 61
theorem item64_all : ((List.range 64).all fun k => (Txt.item LET (k : Nat)).cps.toList == [sgL.getD k 0]) = true := by kernel_rfl
theorem item64 (z : Int) : Txt.item LET (z.fmod 64) = S [sgC z] := by
  have h0 := Int.fmod_nonneg_of_pos z (by decide : (0:Int) < 64)
  have h1 := Int.fmod_lt_of_pos z (by decide : (0:Int) < 64)
  have h := List.all_eq_true.mp item64_all (z.fmod 64).toNat (List.mem_range.mpr (by lia))
  rw [beq_iff_eq, Int.toNat_of_nonneg h0] at h
  have e : (Txt.charAt LET (z.fmod 64)).getD 0 = sgC z := by
    have h' : [(Txt.charAt LET (z.fmod 64)).getD 0] = [sgL.getD (z.fmod 64).toNat 0] := h
    exact (List.cons.inj h').1
  show (⟨#[(Txt.charAt LET (z.fmod 64)).getD 0]⟩ : Str) = _
  rw [e]
end Mine
end
section
open PySem PySem.W PySem.W.X PyProof.Rows PyProof.Rows.LCg PySem.Builtin.Str
set_option maxRecDepth 100000
set_option Elab.async false
namespace Mine
theorem pyl_small {x y : Int} (h : y.natAbs < 2 ^ 30) : Builtin.divisionGoesByPylong x y = false := by
  unfold Builtin.divisionGoesByPylong
  have : y.natAbs.log2 / 30 = 0 := by
    refine Nat.div_eq_of_lt ?_
    by_cases e : y.natAbs = 0
    · rw [e]; decide
    · exact (Nat.log2_lt e).mpr h
  simp only [this]
  split <;> simp
theorem mul_small {a b : Int} (h : a.natAbs < 2 ^ 64) : IntMulOk a b := IntMulOk.of_left (intBits_le_iff.mpr h)
theorem DatAll.strs {fz : Led} : ∀ {vs : List Value} {ts : List (List Nat)}, DatAll fz vs (ts.map fun l => .str (S l)) → ∃ ps : List (Str × Tok), vs = strValues ps ∧ ps.map (·.1) = ts.map S
  | _, [], h => by cases h; exact ⟨[], rfl, rfl⟩
  | _, _ :: _, h => by
    cases h with
    | cons a b => cases a with
      | str x t =>
        obtain ⟨ps, rfl, e⟩ := DatAll.strs b
        exact ⟨(_, t) :: ps, rfl, by rw [List.map_cons, e]; rfl⟩
section
variable {d u : Nat} {x : Str} {g : List Nat} {ts : List (List Nat)}
theorem CallT.join (k : Nat) (h : ∀ l ∈ ts, l.length ≤ k) (hs : g.length ≤ 2) (hz : ts.length * (k + 2) ≤ 1000000) : CallT d u (.builtin "str.join") [.d (.str (S g)), .d (.list (ts.map fun l => .str (S l)))] (.d (.str (S (joinL g ts)))) := by
  constructor
  intro c env Γ xt mu fz m mm s Q E vs O S' hvs q
  obtain ⟨_, _, rfl, h1, h2⟩ := hvs.inv2
  obtain ⟨t, rfl⟩ := DatIn.strE h1
  obtain ⟨_, _, _, rfl, hm, ha⟩ := DatIn.listE h2
  obtain ⟨ps, rfl, e⟩ := DatAll.strs ha
  refine join_eq (ts := ps) (k := k) (S'.get (.inr (.inr hm))).1 (fun x hx => ?_) (by rw [S_len]; exact hs) ?_ fun t' tk => ?_
  · rw [e] at hx
    obtain ⟨l, hl, rfl⟩ := List.mem_map.mp hx
    rw [S_len]; exact h l hl
  · have := congrArg List.length e
    rw [List.length_map, List.length_map] at this
    rw [this]; exact hz
  · rw [e, join_S]
    exact q _ fz s.heap tk (fun _ h => h) S' (.str _ _)
theorem BinT.mulS {i : Int} (hx : x.length ≤ 16) (h0 : 0 ≤ i) (h1 : i ≤ 1000) : BinT .Mult (.d (.str x)) (.d (.int i)) (.d (.str (Txt.mul x i))) := by
  constructor
  intro w A mu fz s Q E va vb ha hb q
  cases ha with | str _ t => cases hb with | int _ u => exact KXi.mul rfl hx (by lia) (by lia) fun t' k _ _ => q _ _ (.str _ _)
theorem mul_S {a i : Nat} : Txt.mul (S [a]) (i : Int) = S (List.replicate i a) := by
  unfold Txt.mul
  cases i with
  | zero => rfl
  | succ n => cases n with
    | zero => rfl
    | succ n =>
      rw [if_neg (by lia), if_neg (by rw [show (((n + 1 + 1 : Nat) : Int) == 1) = false from beq_eq_false_iff_ne.mpr (by lia)]; simp [Str.length])]
      have : ∀ (n : Nat) (acc : List Nat), (List.replicate n (S [a]).cps).foldl (· ++ ·) acc.toArray = (acc ++ List.replicate n a).toArray := by
        intro n
        induction n with
        | zero => intro acc; simp
        | succ n ih =>
          intro acc
          rw [List.replicate_succ, List.foldl_cons, show acc.toArray ++ (S [a]).cps = (acc ++ [a]).toArray from by simp, ih]
          simp [List.replicate_succ]
      have := this (n + 1 + 1) []
      show (⟨_⟩ : Str) = ⟨_⟩
      rw [show (((n + 1 + 1 : Nat) : Int)).toNat = n + 1 + 1 from Int.toNat_natCast _, show (#[] : Array Nat) = ([] : List Nat).toArray from rfl, this]
      rfl
end
section
variable {c : Fc} {env : Env} {Γ : Gm} {value lo up : Expr} {pos p2 : Pos}
theorem EvT.sliceB {b : Array UInt8} {ks : List Int} {i j : Int} (hv : EvT c env Γ value (.d (.bytes b))) (hi : EvT c env Γ lo (.d (.int i))) (hj : EvT c env Γ up (.d (.int j))) (hk : KBw.bInts b = ks) (hz : ks.length ≤ 1000000) :
    EvT c env Γ (.Subscript value (.Slice (some lo) (some up) none p2) pos) (.d (.bytes (KBy.picked b (some i) (some j)))) := by
  refine ⟨fun xt mu fz m mm s Q E S q => ?_⟩
  refine Subscript_ (hv.run xt mu fz m mm s _ E S fun va f1 h1 k1 s1 S1 v1 => ?_)
  obtain ⟨t, rfl⟩ := DatIn.bytesE v1
  refine wpAny_Slice (evalPart_some_step (hi.run xt mu f1 m mm _ _ E S1 fun vi f2 h2 k2 s2 S2 v2 => ?_))
  obtain ⟨u, rfl⟩ := DatIn.intE v2
  refine evalPart_some_step (hj.run xt mu f2 m mm _ _ E S2 fun vj f3 h3 k3 s3 S3 v3 => ?_)
  obtain ⟨u3, rfl⟩ := DatIn.intE v3
  obtain ⟨tb, T, N⟩ := S3.N
  exact evalPart_none_step (kba_turn (value' := nmV) (fun _ => rfl) (KBc.slice_K (s := { s with heap := h3, toks := k3 }) S3.F N hk (.int _ _) (.int _ _) (by lia) (fun h' t' k F' N' _ => q _ f3 h' k (fun p hp => s3 p (s2 p (s1 p hp))) (S3.move F' ⟨tb, T, N'⟩) (.bytes _ _)) (by with_unfolding_all rfl) (fun _ => rfl)))
end
theorem nodup_snd {α β : Type} {x y : α} {a : β} : ∀ {l : List (α × β)}, (l.map (·.2)).Nodup → (x, a) ∈ l → (y, a) ∈ l → x = y
  | [], _, h, _ => nomatch h
  | (z, b) :: l, hn, h1, h2 => by
    rw [List.map_cons, List.nodup_cons] at hn
    have key : ∀ {z : α}, (z, a) ∈ l → a ∈ l.map (·.2) := fun h => List.mem_map_of_mem (f := (·.2)) h
    rcases List.mem_cons.mp h1 with e1 | g1
    · rcases List.mem_cons.mp h2 with e2 | g2
      · exact (congrArg Prod.fst e1).trans (congrArg Prod.fst e2).symm
      · exact absurd ((congrArg Prod.snd e1 : a = b) ▸ key g2) hn.1
    · rcases List.mem_cons.mp h2 with e2 | g2
      · exact absurd ((congrArg Prod.snd e2 : a = b) ▸ key g1) hn.1
      · exact nodup_snd hn.2 g1 g2
theorem SoT.cel {c : Fc} {Γ : Gm} {x : Str} {r : Rv} {n : Nat} {l : List (Str × NameKind)} {a : Addr} (hk : c.cs.kind = .function) (hl : c.cl = cellsFrom n l []) (hc : (cellsFrom n l []).lookup x = some a) (hr : r.free = true := by rfl) (hx : c.env.kindOf x = some .cell := by rfl) (hd : (x == ("__debug__" : Str)) = false := by decide) : SoT c Γ x r :=
  SoT.cell hk (show c.cl.lookup x = some a by rw [hl]; exact hc) (fun y hy => nodup_snd (cellsFrom_ok l n [] List.nodup_nil (fun _ h => nomatch h)).1 (mem_lookup (show (cellsFrom n l []).lookup y = some a by rw [← hl]; exact hy)) (mem_lookup hc)) hr hx hd
end Mine
end
section
open PySem PySem.W PySem.W.X PyProof.Rows PyProof.Rows.LCg PySem.Builtin.Str
set_option maxRecDepth 100000
set_option maxHeartbeats 4000000
set_option Elab.async false
namespace Mine
noncomputable def octN (z : Int) : Nat := if z = 0 then 0 else if z = 1 then 62 else if z = 2 then 251 else 255
noncomputable def octI (x : Int) (k : Nat) : Int := (((x.fdiv 12).fdiv (4 ^ k)).fmod 4)
noncomputable def octL (x : Int) : List Nat := (List.range (1 + (x.fdiv 4).fmod 3).toNat).map fun k => octN (octI x k)
noncomputable def octA (x : Int) : Array UInt8 := byteArr ((octL x).map Int.ofNat)
theorem octN_lt (z : Int) : octN z < 256 := by unfold octN; (repeat' split) <;> decide
theorem octL_in (x : Int) : KBa.In ((octL x).map Int.ofNat) := by
  intro n hn
  obtain ⟨k, hk, rfl⟩ := List.mem_map.mp hn
  obtain ⟨j, _, rfl⟩ := List.mem_map.mp hk
  exact ⟨Int.natCast_nonneg _, Int.ofNat_lt.mpr (octN_lt _)⟩
theorem octA_ints (x : Int) : KBw.bInts (octA x) = (octL x).map Int.ofNat := KBa.ints_make (octL_in x)
theorem oct_at {z : Int} (h0 : 0 ≤ z) (h1 : z < 4) : [Dat.int 0, .int 62, .int 251, .int 255][z.toNat]? = some (.int (octN z)) := by
  obtain rfl | rfl | rfl | rfl : z = 0 ∨ z = 1 ∨ z = 2 ∨ z = 3 := by lia
  all_goals rfl
theorem oct_n (x : Int) : ((1 + (x.fdiv 4).fmod 3).toNat : Int) = 1 + (x.fdiv 4).fmod 3 ∧ (1 + (x.fdiv 4).fmod 3).toNat ≤ 3 := by
  have h0 := Int.fmod_nonneg_of_pos (x.fdiv 4) (by decide : (0:Int) < 3)
  have h1 := Int.fmod_lt_of_pos (x.fdiv 4) (by decide : (0:Int) < 3)
  lia
theorem oct_T {x : Int} : CallT 1 67 (.ref 225) [.d (.int x)] (.d (.bytes (octA x))) := by
  have _key : (fun (_ : OpenLaw) (_ : Params → Frag) => True) PySem.Challenge.rw_kq0058_01 hd.heap_1 := by k_fill; trivial
  clear _key
  refine' CallT.def (d := 0) (u := 64) [Str.ofString "x"] (fun P => ?ho) (fun P => ?hcd) (fun s => len_one fun a => ?hb) ?hok ?hfree ?hr ?h ?hco ?hgen
  case ho => k_is
  case hcd => k_is
  case hb => exact BindsTo.of_eq rfl
  case hok => rfl
  case hfree => rfl
  case hr => rfl
  case hco => rfl
  case hgen => rfl
  case h =>
    intro k O
    refine BdT.retN (EvT.callY O (EvT.bltn O (by k_is) (by kernel_rfl)) (EvTs.cons (EvT.as (EvT.cmpr (by decide) rfl (Cap.cons Cap.nil rfl rfl rfl rfl rfl rfl)
      (EvT.callY O (EvT.bltn O (by k_is) (by kernel_rfl)) (EvTs.cons (EvT.bin EvT.cint (EvT.bin (EvT.bin (EvT.cname O.hk rfl) EvT.cint (BinT.fdiv (by decide) (pyl_small (by decide)))) EvT.cint (BinT.fmod (by decide))) BinT.add) EvTs.nil) CallT.range1)
      (ItT.rangeN (m := (1 + (x.fdiv 4).fmod 3).toNat) (oct_n x).1.symm (Nat.le_trans (oct_n x).2 (by decide))) ?_ (CoT.all (g := fun i => .int (octN (octI x i))) fun i hi => CuT.n0 rfl fun C => ?_)) ?_) EvTs.nil) (CallT.bytesL (octL_in x) ?_))
    · rw [List.length_map, List.length_range]; exact Nat.le_trans (oct_n x).2 (by decide)
    · have hi3 : i < 3 := Nat.lt_of_lt_of_le (List.mem_range.mp hi) (oct_n x).2
      have hp : (4 ^ (i : Int).toNat : Int) ≠ 0 ∧ (4 ^ (i : Int).toNat : Int).natAbs < 2 ^ 30 := by
        obtain rfl | rfl | rfl : i = 0 ∨ i = 1 ∨ i = 2 := by lia
        all_goals decide
      exact EvT.itemL (EvT.lst (ds := [.int 0, .int 62, .int 251, .int 255]) (EvTs.cons EvT.cint (EvTs.cons EvT.cint (EvTs.cons EvT.cint (EvTs.cons EvT.cint EvTs.nil)))) (by decide))
        (EvT.bin (EvT.bin (EvT.bin (EvT.cname rfl rfl) EvT.cint (BinT.fdiv (by decide) (pyl_small (by decide)))) (EvT.bin EvT.cint (EvT.cname rfl rfl) (BinT.pow (Int.natCast_nonneg _) (by lia) (by decide))) (BinT.fdiv hp.1 (pyl_small hp.2))) EvT.cint (BinT.fmod (by decide)))
        (Int.fmod_nonneg_of_pos _ (by decide)) (Int.lt_trans (Int.fmod_lt_of_pos _ (by decide)) (by decide)) (oct_at (Int.fmod_nonneg_of_pos _ (by decide)) (Int.fmod_lt_of_pos _ (by decide)))
    · unfold octL; rw [List.map_map, List.map_map]; rfl
    · unfold octL; rw [List.length_map, List.length_map, List.length_range]; exact Nat.le_trans (oct_n x).2 (by decide)
end Mine
end
section
open PySem PySem.W PySem.W.X PyProof.Rows PyProof.Rows.LCg PySem.Builtin.Str
set_option maxRecDepth 100000
set_option maxHeartbeats 4000000
set_option Elab.async false
namespace Mine
theorem LET_len : LET.length = 64 := by decide +kernel
theorem row_at {ks : List Int} {j : Nat} (h : j < ks.length) : (ks.map Dat.int)[((j : Nat) : Int).toNat]? = some (.int (ks.getD j 0)) := by
  rw [Int.toNat_natCast, List.getElem?_map, List.getElem?_eq_getElem h, List.getD_eq_getElem?_getD, List.getElem?_eq_getElem h]
  rfl
theorem flat_one {α : Type} (f : α → Nat) : ∀ l : List α, (l.map fun q => [f q]).flatten = l.map f
  | [] => rfl
  | a :: l => by rw [List.map_cons, List.flatten_cons, flat_one f l]; rfl
theorem b64_T {b : Array UInt8} {ks : List Int} (hb : KBw.bInts b = ks) (h1 : 1 ≤ ks.length) (h3 : ks.length ≤ 3) (hin : KBa.In ks) : CallT 1 67 (.ref 230) [.d (.bytes b), .d (.str (S [43, 47]))] (.d (.str (S (b64I ks)))) := by
  have _key : (fun (_ : OpenLaw) (_ : Params → Frag) => True) PySem.Challenge.rw_kq0058_01 hd.heap_1 := by k_fill; trivial
  clear _key
  refine' CallT.def (d := 0) (u := 64) [Str.ofString "octets", Str.ofString "two"] (fun P => ?ho) (fun P => ?hcd) (fun s => len_two fun a b => ?hb) ?hok ?hfree ?hr ?h ?hco ?hgen
  case ho => k_is
  case hcd => k_is
  case hb => exact BindsTo.of_eq rfl
  case hok => rfl
  case hfree => rfl
  case hr => rfl
  case hco => rfl
  case hgen => rfl
  case h =>
    intro k O
    refine BdT.cons (StT.pair (d1 := .str LET) (d2 := .str (S [])) (EvT.tup (ds := [.str LET, .str (S [])]) (EvTs.cons (EvT.as (EvT.bin EvT.cstr (EvT.cname O.hk rfl) (BinT.cat (by decide) (by decide))) (by rfl)) (EvTs.cons (EvT.cS []) EvTs.nil)) (by decide)) (SoT.cel O.hk rfl rfl) (SoT.loc O.hk)) ?_
    have hlen : (b.size : Int) = (ks.length : Int) := by rw [← hb, KBw.ints_length]
    have hcut : KBw.bInts (KBy.picked b (some (0 + ((0 : Nat) : Int) * 3)) (some (0 + ((0 : Nat) : Int) * 3 + 3))) = ks := by
      rw [KBc.ints_picked hb]
      show (ks.drop (clipAt ks.length 0)).take (clipAt ks.length 3 - clipAt ks.length 0) = ks
      rw [KBc.clip_lit, KBc.clip_lit]
      simp only [Nat.zero_min, List.drop_zero, Nat.sub_zero]
      exact List.take_of_length_le (by lia)
    have hrow : (ks.map Dat.int).length ≤ 10000 := by rw [List.length_map]; lia
    have hm : (ks.map Dat.int).length = ks.length := List.length_map _
    have hjn : joinL [] ((List.range (ks.length + 1)).map fun q => [chI ks 3 q]) = (List.range (ks.length + 1)).map (chI ks 3) := by rw [joinL_nil, flat_one]
    have h123 : ks.length = 1 ∨ ks.length = 2 ∨ ks.length = 3 := by lia
    refine' BdT.cons (StT.for (EvT.callY O (EvT.bltn O (by k_is) (by kernel_rfl)) (EvTs.cons EvT.cint (EvTs.cons (EvT.callB O (EvT.bltn O (by k_is) (by kernel_rfl)) (EvTs.cons (EvT.cname O.hk rfl) EvTs.nil) (CallT.lenB hlen (by lia))) (EvTs.cons EvT.cint EvTs.nil))) (CallT.range3 (by decide) (pyl_small (by decide)))) (ItT.range (n := 1) ?rs ?rz) (FoT.cons (AsT.name (SoT.loc O.hk)) (BdT.cons (StT.asg (EvT.callY O (EvT.bltn O (by k_is) (by kernel_rfl)) (EvTs.cons (EvT.sliceB (EvT.cname O.hk rfl) (EvT.cname O.hk rfl) (EvT.bin (EvT.cname O.hk rfl) EvT.cint BinT.add) hb (by lia)) EvTs.nil) (CallT.listB (ks := ks) hcut (by lia))) (SoT.cel O.hk rfl rfl))
      (BdT.cons (StT.asg (r := .d (.int ((List.range ks.length).map (wgt ks)).sum)) (EvT.callB O (EvT.bltn O (by k_is) (by kernel_rfl)) (EvTs.cons (EvT.as (EvT.cmpr (by decide) rfl (Cap.cons Cap.nil rfl rfl rfl rfl rfl rfl)
        (EvT.callY O (EvT.bltn O (by k_is) (by kernel_rfl)) (EvTs.cons (EvT.callB O (EvT.bltn O (by k_is) (by kernel_rfl)) (EvTs.cons (EvT.cname O.hk rfl) EvTs.nil) (CallT.lenL hrow)) EvTs.nil) CallT.range1)
        (ItT.rangeN (m := ks.length) (by rw [List.length_map]) (by lia)) ?sz1 (CoT.all (g := fun j => .int (wgt ks j)) fun j hj => CuT.n0 rfl fun C => ?turn1)) ?eq1) EvTs.nil) CallT.sum) (SoT.cel O.hk rfl rfl))
      (BdT.cons (StT.asg (EvT.bin (EvT.bin (EvT.cname O.hk rfl) (EvT.meth O (EvT.cS []) MethT.join (EvTs.cons (EvT.as (EvT.cmpr (by decide) rfl (Cap.cons (Cap.cons Cap.nil rfl rfl rfl rfl rfl rfl) rfl rfl rfl rfl rfl rfl)
        (EvT.callY O (EvT.bltn O (by k_is) (by kernel_rfl)) (EvTs.cons EvT.cint (EvTs.cons (EvT.bin EvT.cint (EvT.callB O (EvT.bltn O (by k_is) (by kernel_rfl)) (EvTs.cons (EvT.cname O.hk rfl) EvTs.nil) (CallT.lenL hrow)) BinT.sub) (EvTs.cons EvT.neg EvTs.nil))) (CallT.range3 (by decide) (pyl_small (by decide))))
        (ItT.range (n := ks.length + 1) ?rs2 ?rz2) ?sz2 (CoT.all (g := fun j => .str (S [chI ks 3 j])) fun j hj => CuT.n0 rfl fun C => ?turn2)) ?eq2) EvTs.nil) (CallT.join (ts := (List.range (ks.length + 1)).map fun q => [chI ks 3 q]) 1 ?j1 (by decide) ?j2)) (BinT.catS ?c1))
        (EvT.as (r' := .d (.str (S (List.replicate (3 - ks.length) 61)))) (EvT.bin (EvT.cS [61]) (EvT.bin EvT.cint (EvT.callB O (EvT.bltn O (by k_is) (by kernel_rfl)) (EvTs.cons (EvT.cname O.hk rfl) EvTs.nil) (CallT.lenL hrow)) BinT.sub) (BinT.mulS (by decide) ?m0 ?m1)) ?eq3) (BinT.catS ?c2)) (SoT.loc O.hk)) BdT.nil))) (.inl rfl) FoT.nil)) (BdT.retN (EvT.as (EvT.cname O.hk rfl) ?eq4))
    case rs => rcases h123 with e | e | e <;> rw [e] <;> decide
    case rz => rcases h123 with e | e | e <;> rw [e] <;> decide
    case sz1 => rw [List.length_map, List.length_range]; lia
    case turn1 =>
      have hj := List.mem_range.mp hj
      have hj3 : j < 3 := Nat.lt_of_lt_of_le hj h3
      have h0 := hin (ks.getD j 0) (by rw [List.getD_eq_getElem?_getD, List.getElem?_eq_getElem hj]; exact List.getElem_mem hj)
      refine EvT.as (EvT.bin (EvT.itemL (EvT.cname rfl rfl) (EvT.cname rfl rfl) (Int.natCast_nonneg _) (by lia) (row_at hj)) (EvT.bin EvT.cint (EvT.bin EvT.cint (EvT.cname rfl rfl) BinT.sub) (BinT.pow (by lia) (by lia) (by decide))) (BinT.mul (mul_small (by lia)))) ?_
      rw [show (2 : Int) - (j : Int) = ((2 - j : Nat) : Int) from by lia, Int.toNat_natCast]
      rfl
    case eq1 => rw [List.map_map]; rfl
    case rs2 => rw [hm]; rcases h123 with e | e | e <;> rw [e] <;> decide
    case rz2 => rw [hm]; rcases h123 with e | e | e <;> rw [e] <;> decide
    case sz2 => rw [List.length_map, List.length_range]; lia
    case turn2 =>
      have hj := List.mem_range.mp hj
      have e : (3 : Int) + (j : Int) * -1 = ((3 - j : Nat) : Int) := by lia
      rw [e]
      have hp : (64 ^ ((3 - j : Nat) : Int).toNat : Int) ≠ 0 ∧ (64 ^ ((3 - j : Nat) : Int).toNat : Int).natAbs < 2 ^ 30 := by
        obtain rfl | rfl | rfl | rfl : j = 0 ∨ j = 1 ∨ j = 2 ∨ j = 3 := by lia
        all_goals decide
      have z0 := fun z : Int => Int.fmod_nonneg_of_pos z (by decide : (0 : Int) < 64)
      have z1 := fun z : Int => Int.fmod_lt_of_pos z (by decide : (0 : Int) < 64)
      refine EvT.as (EvT.itemS (x := LET) (EvT.cname rfl rfl) (EvT.bin (EvT.bin (EvT.cname rfl rfl) (EvT.bin EvT.cint (EvT.cname rfl rfl) (BinT.pow (Int.natCast_nonneg _) (by lia) (by decide))) (BinT.fdiv hp.1 (pyl_small hp.2))) EvT.cint (BinT.fmod (by decide))) ?_ ?_ ?_) ?_
      · have a := z0 (((List.map (wgt ks) (List.range ks.length)).sum).fdiv (64 ^ ((3 - j : Nat) : Int).toNat))
        have b := z1 (((List.map (wgt ks) (List.range ks.length)).sum).fdiv (64 ^ ((3 - j : Nat) : Int).toNat))
        exact fitsSsize_of (N := 9223372036854775808) (by lia) (by lia) (Int.le_refl _)
      · rw [LET_len]; exact Int.le_trans (by decide) (z0 _)
      · rw [LET_len]; exact z1 _
      · rw [item64, Int.toNat_natCast]; rfl
    case eq2 => rw [List.map_map]; rfl
    case j1 =>
      intro l hl
      obtain ⟨q, _, rfl⟩ := List.mem_map.mp hl
      exact Nat.le_refl _
    case j2 => rw [List.length_map, List.length_range]; lia
    case c1 => rw [hjn, List.length_map, List.length_range]; simp; lia
    case m0 => rw [hm]; lia
    case m1 => rw [hm]; lia
    case eq3 => rw [hm, show (3 : Int) - (ks.length : Int) = ((3 - ks.length : Nat) : Int) from by lia, mul_S]
    case c2 => rw [hjn]; simp; lia
    case eq4 => rw [hjn]; rfl
end Mine
end
section
open PySem PySem.W PySem.W.X PyProof.Rows PyProof.Rows.LCg PySem.Builtin.Str
set_option maxRecDepth 100000
set_option Elab.async false
namespace Mine
theorem RAll.append {mu fz : Led} {rs rs' : List Rv} {vs vs' : List Value} (h : RAll mu fz rs vs) (h' : RAll mu fz rs' vs') : RAll mu fz (rs ++ rs') (vs ++ vs') := by
  induction h with
  | nil => exact h'
  | cons a _ ih => exact .cons a ih
section
variable {qual name : Str} {params : Arguments} {body : List Stmt} {scope : Scope} {dV kV doc pm cdv ct oc : Value} {an od : Option Addr} {osl : Array (Option Value)} {f : Addr} {as es : List Rv} {r rk : Rv} {kn : Str} {d u : Nat}
theorem CallT.defD (pn : List Str) (evs : List Value) (hes : ∀ mu fz, RAll mu fz es evs) (ho : ∀ P, (hd.heap_1 P).lookup f = some ⟨oc, od, .func (fnOf name qual params body scope dV kV doc pm an cdv ct), osl⟩) (hcd : ∀ P, codeIn (hd.heap_1 P) cdv qual = true)
    (hb : ∀ (w : World) (s : Shared) (vs : List Value), (hd.heap_1 w.params).In s.heap → vs.length = as.length → BindsTo s (fnOf name qual params body scope dV kV doc pm an cdv ct) ⟨vs, []⟩ (pn.zip (vs ++ evs))) (hok : okD pn (as ++ es).length scope = true) (hfree : (as ++ es).all Rv.free = true) (hr : r.free = true)
    (h : ∀ k : Fc, (fcOfC k qual scope f cdv).Ok d u → BdT (fcOfC k qual scope f cdv) (argG pn (as ++ es)) body (fun _ => none) (.ret r))
    (hco : scope.isCoroutine = false := by rfl) (hgen : scope.isGenerator = false := by rfl) : CallT (d + 1) (u + 3) (.ref f) as r :=
  ⟨fun {c env Γ xt mu fz m mm s Q E vs} O S hvs q => enterD pn ho hcd hok hfree hr hco hgen h O S (hvs.append (hes _ _)) (hb c.w _ _ (O.X.keeps S.F.keep) hvs.len) q⟩
structure CallK (d u : Nat) (f : Value) (as : List Rv) (kn : Str) (rk : Rv) (r : Rv) : Prop where
  run : ∀ {c : Fc} {env : Env} {Γ : Gm} {xt mu fz : Led} {m mm : Str → Option Value} {s : Shared} {Q E : Value → Shared → Prop} {vs : List Value} {kv : Value}, c.Ok d u → Es c env Γ xt mu fz m mm s.heap → RAll mu fz as vs → rk.Is mu fz kv →
    (∀ v fz' h' tk, (∀ p ∈ fz, p ∈ fz') → Es c env Γ xt mu fz' m mm h' → r.Is mu fz' v → Q v { s with heap := h', toks := tk }) → wpAny c.M c.A (call f vs [(kn, kv)]) Q E s
theorem CallK.def (pn : List Str) (ho : ∀ P, (hd.heap_1 P).lookup f = some ⟨oc, od, .func (fnOf name qual params body scope dV kV doc pm an cdv ct), osl⟩) (hcd : ∀ P, codeIn (hd.heap_1 P) cdv qual = true)
    (hb : ∀ s (vs : List Value) (kv : Value), vs.length = as.length → BindsTo s (fnOf name qual params body scope dV kV doc pm an cdv ct) ⟨vs, [(kn, kv)]⟩ (pn.zip (vs ++ [kv]))) (hok : okD pn (as ++ [rk]).length scope = true) (hfree : (as ++ [rk]).all Rv.free = true) (hr : r.free = true)
    (h : ∀ k : Fc, (fcOfC k qual scope f cdv).Ok d u → BdT (fcOfC k qual scope f cdv) (argG pn (as ++ [rk])) body (fun _ => none) (.ret r))
    (hco : scope.isCoroutine = false := by rfl) (hgen : scope.isGenerator = false := by rfl) : CallK (d + 1) (u + 3) (.ref f) as kn rk r :=
  ⟨fun O S hvs hkv q => enterD pn ho hcd hok hfree hr hco hgen h O S (hvs.append (.cons hkv .nil)) (hb _ _ _ hvs.len) q⟩
end
section
variable {c : Fc} {env : Env} {Γ : Gm} {pos p2 : Pos} {e f ke : Expr} {es : List Expr} {r x y rk : Rv} {rs : List Rv} {d u : Nat}
theorem EvT.callKW {a : Addr} {kn : Str} (O : c.Ok d u) (hf : EvT c env Γ f (.val (.ref a))) (ha : EvTs c env Γ (e :: es) rs) (hke : EvT c env Γ ke rk) (h : CallK d u (.ref a) rs kn rk r) (hk : ∀ P, keepIn (hd.heap_1 P) (.ref a) = true)
    (he : eval (.Call f (e :: es) [⟨some kn, ke, p2⟩] pos) env = (do callWith pos (← eval f env) [] (backTo pos (starEach (e :: es) env)) (backToKw pos (keywordEach [⟨some kn, ke, p2⟩] env))) := by rfl)
    (h1 : starEach (e :: es) env = (false, eval e env) :: starEach es env := by rfl) (h2 : ((backTo pos (starEach (e :: es) env)).any (·.1) || (backToKw pos (keywordEach [⟨some kn, ke, p2⟩] env)).any (·.1.isNone)) = false := by rfl) : EvT c env Γ (.Call f (e :: es) [⟨some kn, ke, p2⟩] pos) r := by
  refine ⟨fun xt mu fz m mm s Q E S q => ?_⟩
  rw [he]
  refine wpAny_bind (hf.run xt mu fz m mm s _ E S fun v f1 h1' k1 s1 S1 v1 => ?_)
  cases v1
  exact callWith_KW (first := []) (O.X.keeps S1.F.keep) (hk _) rfl (ha.run xt mu f1 m mm pos _ _ E S1 fun vs f2 h2' k2 s2 S2 v2 => kwAll_cons (hke.run xt mu f2 m mm _ _ E S2 fun kv f4 h4 k4 s4 S4 v4 => kwAll_nil ⟨O.X.keeps S4.F.keep, h.run O S4 (v2.mono s4) v4 fun v f3 h3 k3 s3 S3 v3 => q v f3 h3 k3 (fun p hp => s3 p (s4 p (s2 p (s1 p hp)))) S3 v3⟩)) h2 h1
theorem CmpT.isT {T : String} : CmpT .Is (.val (.type T)) (.val (.type T)) true := by
  constructor
  intro c env Γ xt mu fz m mm s Q E va vb _ _ ha hb q
  cases ha; cases hb
  exact wpAny_is_self rfl q
theorem CmpT.isTn {T U : String} (h : T ≠ U := by decide) : CmpT .Is (.val (.type T)) (.val (.type U)) false := by
  constructor
  intro c env Γ xt mu fz m mm s Q E va vb _ _ ha hb q
  cases ha; cases hb
  exact wpAny_is_other rfl (fun e => h (by injection e)) q
theorem CmpT.isBool {b : Bool} : CmpT .Is (.d (.bool b)) (.d .none) false := by
  constructor
  intro c env Γ xt mu fz m mm s Q E va vb _ _ ha hb q
  cases ha; cases hb
  exact wpAny_is_other rfl (fun e => nomatch e) q
theorem CallT.typeB {b : Array UInt8} : CallT d u (.type "type") [.d (.bytes b)] (.val (.type "bytes")) := by
  constructor
  intro c env Γ xt mu fz m mm s Q E vs O S hvs q
  obtain ⟨_, rfl, h1⟩ := hvs.inv1
  obtain ⟨t, rfl⟩ := DatIn.bytesE h1
  exact type_bytes (q _ fz s.heap s.toks (fun _ h => h) S rfl)
theorem CallT.typeO {b : Bool} : CallT d u (.type "type") [.d (.bool b)] (.val (.type "bool")) := by
  constructor
  intro c env Γ xt mu fz m mm s Q E vs O S hvs q
  obtain ⟨_, rfl, h1⟩ := hvs.inv1
  cases DatIn.boolE h1
  exact call_type_of (Tx := "bool") rfl (by decide +kernel) (q _ fz s.heap s.toks (fun _ h => h) S rfl)
end
theorem FoT.fold {c : Fc} {t : Expr} {b : List Stmt} {σ α : Type} {f : α → Rv} (step : σ → α → σ) (G : σ → Gm) (inv : List α → σ → Prop)
    (h : ∀ st a l, inv (a :: l) st → inv l (step st a) ∧ ∃ Γ₁ fl, AsT c (G st) t (f a) Γ₁ ∧ BdT c Γ₁ b (G (step st a)) fl ∧ (fl = .next ∨ fl = .cont)) : ∀ (l : List α) (st : σ), inv l st → FoT c t b (l.map f) (G st) (G (l.foldl step st))
  | [], st, _ => .nil
  | a :: l, st, hi => by
    obtain ⟨h1, Γ₁, fl, h2, h3, h4⟩ := h st a l hi
    exact .cons h2 h3 h4 (FoT.fold step G inv h l _ h1)
theorem len_map {α β : Type} {f : α → β} {l : List α} {n : Nat} (h : l.length ≤ n) : (l.map f).length ≤ n := by
  rw [List.length_map]
  exact h
end Mine
end
section
open PySem PySem.W PySem.W.X PyProof.Rows PyProof.Rows.LCg PySem.Builtin.Str
set_option maxRecDepth 100000
set_option maxHeartbeats 4000000
set_option Elab.async false
namespace Mine
noncomputable def b64T : List Nat := [65,66,67,68,69,70,71,72,73,74,75,76,77,78,79,80,81,82,83,84,85,86,87,88,89,90,97,98,99,100,101,102,103,104,105,106,107,108,109,110,111,112,113,114,115,116,117,118,119,120,121,122,48,49,50,51,52,53,54,55,56,57,43,47]
noncomputable def b64c (i : Nat) : Nat := b64T.getD i 0
noncomputable def b64L : List Nat → List Nat
  | [a] => [b64c (a / 4), b64c (a % 4 * 16), 61, 61]
  | [a, b] => [b64c (a / 4), b64c (a % 4 * 16 + b / 16), b64c (b % 16 * 4), 61]
  | [a, b, c] => [b64c (a / 4), b64c (a % 4 * 16 + b / 16), b64c (b % 16 * 4 + c / 64), b64c (c % 64)]
  | _ => []
noncomputable def octD : List Nat := [0, 62, 251, 255]
noncomputable def allOct : List (List Nat) := octD.map (fun a => [a]) ++ octD.flatMap (fun a => octD.map fun b => [a, b]) ++ octD.flatMap fun a => octD.flatMap fun b => octD.map fun c => [a, b, c]
noncomputable def b64TI : List Int := b64T.map Int.ofNat
noncomputable def eS (lc b : Int) : Int := Builtin.bitAnd (Builtin.bitOr (lc * 2 ^ (8 : Int).toNat) b) 65535
noncomputable def eX (i : Int) : Int := b64TI.getD i.toNat 0
noncomputable def eT (lc n : Int) : Int := eX (Builtin.bitAnd (lc.fdiv (2 ^ n.toNat)) 63)
noncomputable def eStep (st : Int × Int × List Int) (b : Int) : Int × Int × List Int :=
  if st.1 = 4 then (0, eS st.2.1 b, st.2.2 ++ [eT (eS st.2.1 b) 6] ++ [eT (eS st.2.1 b) 0]) else (st.1 + 2, eS st.2.1 b, st.2.2 ++ [eT (eS st.2.1 b) (st.1 + 2)])
noncomputable def eEnd (st : Int × Int × List Int) : List Int :=
  if st.1 = 2 then st.2.2 ++ [eX (Builtin.bitAnd st.2.1 3 * 2 ^ (4 : Int).toNat)] ++ [61] ++ [61] else if st.1 = 4 then st.2.2 ++ [eX (Builtin.bitAnd st.2.1 15 * 2 ^ (2 : Int).toNat)] ++ [61] else st.2.2
noncomputable def encN (ks : List Int) : List Int := eEnd (ks.foldl eStep (0, 0, []))
theorem enc_all : ∀ o ∈ allOct, encN (o.map Int.ofNat) = (b64L o).map Int.ofNat := by decide +kernel
theorem eS_lt (a b : Int) : (eS a b).natAbs < 2 ^ 64 := by
  have := bitAnd_range (Builtin.bitOr (a * 2 ^ (8 : Int).toNat) b) (y := 65535) (by decide)
  show (Builtin.bitAnd _ 65535).natAbs < _
  lia
theorem b63 (x : Int) : 0 ≤ Builtin.bitAnd x 63 ∧ Builtin.bitAnd x 63 < 64 := by
  have := bitAnd_range x (y := 63) (by decide)
  lia
theorem len64 : b64TI.length = 64 := by decide
section
variable {c : Fc} {env : Env} {Γ : Gm} {pos p1 : Pos} {e : Expr} {i : Int}
theorem EvT.toB {b : Array UInt8} {t : Tok} (h : EvT c env Γ e (.val (.bytes b t))) : EvT c env Γ e (.d (.bytes b)) := ⟨fun xt mu fz m mm s Q E S q =>
  h.run xt mu fz m mm s Q E S fun v f1 h1 k1 s1 S1 v1 => q v f1 h1 k1 s1 S1 (by cases v1; exact .bytes _ _)⟩
end
theorem buf_T {b : Array UInt8} : CallT 1 67 (.ref 136) [.d (.bytes b)] (.d (.bytes b)) := by
  have _key : (fun (_ : OpenLaw) (_ : Params → Frag) => True) PySem.Challenge.rw_kq0058_01 hd.heap_1 := by k_fill; trivial
  clear _key
  refine' CallT.def (d := 0) (u := 64) [Str.ofString "data"] (fun P => ?ho) (fun P => ?hcd) (fun s => len_one fun a => BindsTo.of_eq ?hb) ?hok ?hfree ?hr ?h ?hco ?hgen
  case ho => k_is
  case hcd => k_is
  case hok => rfl
  case hfree => rfl
  case hr => rfl
  case hco => rfl
  case hgen => rfl
  case hb => rfl
  case h =>
    intro k O
    have hu := O.un
    refine BdT.cons (StT.asg (EvT.callY O (EvT.bltn O (by k_is) (by kernel_rfl)) (EvTs.cons (EvT.cname O.hk rfl) EvTs.nil) CallT.typeB) (SoT.loc O.hk)) ?_
    exact BdT.ret (StT.ifT (TsW.cmp hu (EvT.cname O.hk rfl) (EvT.bltn O (by k_is) (by kernel_rfl)) CmpT.isT).t (BdT.retN (EvT.cname O.hk rfl)))
theorem truth_T : CallT 1 67 (.ref 143) [.d (.bool false)] (.d (.bool false)) := by
  have _key : (fun (_ : OpenLaw) (_ : Params → Frag) => True) PySem.Challenge.rw_kq0058_01 hd.heap_1 := by k_fill; trivial
  clear _key
  refine' CallT.def (d := 0) (u := 64) [Str.ofString "x"] (fun P => ?ho) (fun P => ?hcd) (fun s => len_one fun a => BindsTo.of_eq ?hb) ?hok ?hfree ?hr ?h ?hco ?hgen
  case ho => k_is
  case hcd => k_is
  case hok => rfl
  case hfree => rfl
  case hr => rfl
  case hco => rfl
  case hgen => rfl
  case hb => rfl
  case h =>
    intro k O
    have hu := O.un
    refine BdT.cons (StT.asg (EvT.callY O (EvT.bltn O (by k_is) (by kernel_rfl)) (EvTs.cons (EvT.cname O.hk rfl) EvTs.nil) CallT.typeO) (SoT.loc O.hk)) ?_
    refine BdT.ret (StT.ifT (TsW.orF (TsW.cmp hu (EvT.cname O.hk rfl) EvT.cnone CmpT.isBool).t (TsW.orT (TsW.cmp hu (EvT.cname O.hk rfl) (EvT.bltn O (by k_is) (by kernel_rfl)) CmpT.isT).t)).t (BdT.retN (EvT.ifF (TsT.plain (EvT.cname O.hk rfl) rfl (Nat.zero_le _)) EvT.cbool)))
theorem b64_glob : ∀ P, ∃ A t, nsIn (hd.heap_1 P) mainGlobals (Str.ofString "_B64") = some (some (.bytes A t)) ∧ KBw.bInts A = b64TI := by
  have _key : (fun (_ : OpenLaw) (_ : Params → Frag) => True) PySem.Challenge.rw_kq0058_01 hd.heap_1 := by k_fill; trivial
  clear _key
  exact fun P => ⟨_, _, by k_is, by kernel_rfl⟩
section
variable {c : Fc} {d u : Nat} {Γ : Gm}
theorem EvT.b64 {e : Expr} {i : Int} {p1 p2 : Pos} (O : c.Ok d u) (hi : EvT c c.env Γ e (.d (.int i))) (h0 : 0 ≤ i) (h1 : i < 64) (hx : c.env.kindOf (Str.ofString "_B64") = some .globalImplicit := by rfl)
    (hs : ∀ (b : Array UInt8) t u, subscripted e false (.bytes b t) (.int i u) = operate [.bytes b t, .int i u] (getItem (.bytes b t) (.int i u)) := by intros; with_unfolding_all rfl) : EvT c c.env Γ (.Subscript (.Name (Str.ofString "_B64") p1) e p2) (.d (.int (eX i))) := by
  obtain ⟨A, t, hg, hA⟩ := b64_glob c.w.params
  exact EvT.itemB (EvT.toB (EvT.glob O hg rfl O.hk hx)) hi hA (by rw [len64]; decide) h0 (by rw [len64]; exact h1) (hs _)
end
noncomputable def eG (Γ0 : Gm) (st : Int × Int × List Int) : Gm := put (put (put Γ0 (Str.ofString "out") (.own (st.2.2.map .int))) (Str.ofString "leftbits") (.d (.int st.1))) (Str.ofString "leftchar") (.d (.int st.2.1))
noncomputable def eInv (n : Nat) (st : Int × Int × List Int) : Prop := (st.1 = 0 ∨ st.1 = 2 ∨ st.1 = 4) ∧ st.2.1.natAbs < 2 ^ 64 ∧ st.2.2.length + 2 * n ≤ 100
theorem eInv_step {n : Nat} {st : Int × Int × List Int} {a : Int} (h : eInv (n + 1) st) : eInv n (eStep st a) := by
  obtain ⟨lb, lc, out⟩ := st
  obtain ⟨hlb, hlc, hlen⟩ := h
  dsimp only at hlb hlc hlen
  rcases hlb with rfl | rfl | rfl
  · exact ⟨.inr (.inl rfl), eS_lt _ _, by show (out ++ [_]).length + 2 * n ≤ 100; rw [List.length_append]; show out.length + 1 + 2 * n ≤ 100; lia⟩
  · exact ⟨.inr (.inr rfl), eS_lt _ _, by show (out ++ [_]).length + 2 * n ≤ 100; rw [List.length_append]; show out.length + 1 + 2 * n ≤ 100; lia⟩
  · exact ⟨.inl rfl, eS_lt _ _, by show (out ++ [_] ++ [_]).length + 2 * n ≤ 100; rw [List.length_append, List.length_append]; show out.length + 1 + 1 + 2 * n ≤ 100; lia⟩
theorem int_snoc {l : List Int} {a : Int} : (l ++ [a]).map Dat.int = l.map Dat.int ++ [Dat.int a] := List.map_append
theorem eG_post {Γ0 Γ : Gm} {st : Int × Int × List Int} (h0 : Γ0 (Str.ofString "b") = none) (h1 : Γ (Str.ofString "out") = some (.own (st.2.2.map .int))) (h2 : Γ (Str.ofString "leftbits") = some (.d (.int st.1))) (h3 : Γ (Str.ofString "leftchar") = some (.d (.int st.2.1)))
    (h4 : ∀ z, z ≠ Str.ofString "out" → z ≠ Str.ofString "leftbits" → z ≠ Str.ofString "leftchar" → z ≠ Str.ofString "b" → Γ z = Γ0 z) : ∀ z r, eG Γ0 st z = some r → Γ z = some r := by
  intro z r h
  unfold eG at h
  by_cases e3 : z = Str.ofString "leftchar"
  · subst e3; rw [put_eq] at h; exact h3.trans h
  · rw [put_ne e3] at h
    by_cases e2 : z = Str.ofString "leftbits"
    · subst e2; rw [put_eq] at h; exact h2.trans h
    · rw [put_ne e2] at h
      by_cases e1 : z = Str.ofString "out"
      · subst e1; rw [put_eq] at h; exact h1.trans h
      · rw [put_ne e1] at h
        by_cases e0 : z = Str.ofString "b"
        · subst e0; rw [h0] at h; cases h
        · exact (h4 z e1 e2 e3 e0).trans h
theorem b2a_T {b : Array UInt8} {ks : List Int} (hb : KBw.bInts b = ks) (h1 : 1 ≤ ks.length) (h3 : ks.length ≤ 3) (hn : KBa.In (encN ks)) : CallK 2 70 (.ref 166) [.d (.bytes b)] (Str.ofString "newline") (.d (.bool false)) (.d (.bytes (byteArr (encN ks)))) := by
  have _key : (fun (_ : OpenLaw) (_ : Params → Frag) => True) PySem.Challenge.rw_kq0058_01 hd.heap_1 := by k_fill; trivial
  clear _key
  refine' CallK.def (d := 1) (u := 67) [Str.ofString "data", Str.ofString "newline"] (fun P => ?ho) (fun P => ?hcd) (fun s vs kv => len_one (P := fun vs => BindsTo s _ ⟨vs, [(Str.ofString "newline", kv)]⟩ ([Str.ofString "data", Str.ofString "newline"].zip (vs ++ [kv]))) (fun a => BindsTo.of_eq ?hb) vs) ?hok ?hfree ?hr ?h ?hco ?hgen
  case ho => k_is
  case hcd => k_is
  case hok => rfl
  case hfree => rfl
  case hr => rfl
  case hco => rfl
  case hgen => rfl
  case hb => rfl
  case h =>
    intro k O
    have hu := (O.le (Nat.le_refl _) (by decide : 64 ≤ 67)).un
    refine BdT.cons (StT.asg (EvT.callK O (EvT.glob O (by k_is)) (EvTs.cons (EvT.cname O.hk rfl) EvTs.nil) buf_T (by intro P; k_is)) (SoT.loc O.hk)) ?_
    refine BdT.cons (StT.asg (EvT.callK O (EvT.glob O (by k_is)) (EvTs.cons (EvT.cname O.hk rfl) EvTs.nil) truth_T (by intro P; k_is)) (SoT.loc O.hk)) ?_
    refine BdT.cons (StT.newL O.hk) (BdT.cons (StT.asg EvT.cint (SoT.loc O.hk)) (BdT.cons (StT.asg EvT.cint (SoT.loc O.hk)) ?_))
    refine BdT.cons (StT.for (EvT.cname O.hk rfl) (ItT.bytes hb) (FoT.fold eStep (eG _) (fun l st => eInv l.length st) (fun st a n hi => ?turn) ks (0, 0, []) ⟨.inl rfl, by decide, by simp; lia⟩)) ?rest
    case turn =>
      obtain ⟨lb, lc, out⟩ := st
      obtain ⟨hlb, hlc, hlen⟩ := id hi
      dsimp only at hlb hlc hlen
      have hz : (out.map Dat.int).length ≤ 1000000 := by rw [List.length_map]; lia
      have hz2 : ∀ x, (out.map Dat.int ++ [x]).length ≤ 1000000 := by intro x; rw [List.length_append, List.length_map]; show out.length + 1 ≤ _; lia
      rcases hlb with rfl | rfl | rfl
      · refine ⟨eInv_step (n := n.length) hi, _, .next, AsT.name (SoT.loc O.hk), ExT.post (BdT.cons (StT.asg (EvT.bin (EvT.bin (EvT.bin (EvT.cname O.hk rfl) EvT.cint (BinT.shl (by decide) (by decide) hlc)) (EvT.cname O.hk rfl) BinT.or) EvT.cint BinT.and) (SoT.loc O.hk)) (BdT.cons (StT.asg (EvT.bin (EvT.cname O.hk rfl) EvT.cint BinT.add) (SoT.loc O.hk)) (BdT.cons (StT.whl (n := 1) (WhT.step (TsW.cmp hu (EvT.cname O.hk rfl) EvT.cint (CmpT.geI.as (by rfl))).t
          (BdT.cons (StT.app O.hk rfl (EvT.b64 O (EvT.bin (EvT.bin (EvT.cname O.hk rfl) (EvT.bin (EvT.cname O.hk rfl) EvT.cint BinT.sub) (BinT.shr (show (0 : Int) ≤ 0 + 8 - 6 by decide))) EvT.cint BinT.and) (b63 _).1 (b63 _).2) hz) (BdT.cons (StT.asg (EvT.bin (EvT.cname O.hk rfl) EvT.cint BinT.sub) (SoT.loc O.hk)) BdT.nil)) (.inl rfl) (WhT.done (TsW.cmp hu (EvT.cname O.hk rfl) EvT.cint (CmpT.geI.as (by rfl))).t))) BdT.nil))) (eG_post rfl ?_ rfl rfl ?_), .inl rfl⟩
        · exact congrArg (fun l => some (Rv.own l)) int_snoc.symm
        · intro z e1 e2 e3 e4; rw [put_ne e2, put_ne e1, put_ne e2, put_ne e3, put_ne e4]; unfold eG; rw [put_ne e3, put_ne e2, put_ne e1]
      · refine ⟨eInv_step (n := n.length) hi, _, .next, AsT.name (SoT.loc O.hk), ExT.post (BdT.cons (StT.asg (EvT.bin (EvT.bin (EvT.bin (EvT.cname O.hk rfl) EvT.cint (BinT.shl (by decide) (by decide) hlc)) (EvT.cname O.hk rfl) BinT.or) EvT.cint BinT.and) (SoT.loc O.hk)) (BdT.cons (StT.asg (EvT.bin (EvT.cname O.hk rfl) EvT.cint BinT.add) (SoT.loc O.hk)) (BdT.cons (StT.whl (n := 1) (WhT.step (TsW.cmp hu (EvT.cname O.hk rfl) EvT.cint (CmpT.geI.as (by rfl))).t
          (BdT.cons (StT.app O.hk rfl (EvT.b64 O (EvT.bin (EvT.bin (EvT.cname O.hk rfl) (EvT.bin (EvT.cname O.hk rfl) EvT.cint BinT.sub) (BinT.shr (show (0 : Int) ≤ 2 + 8 - 6 by decide))) EvT.cint BinT.and) (b63 _).1 (b63 _).2) hz) (BdT.cons (StT.asg (EvT.bin (EvT.cname O.hk rfl) EvT.cint BinT.sub) (SoT.loc O.hk)) BdT.nil)) (.inl rfl) (WhT.done (TsW.cmp hu (EvT.cname O.hk rfl) EvT.cint (CmpT.geI.as (by rfl))).t))) BdT.nil))) (eG_post rfl ?_ rfl rfl ?_), .inl rfl⟩
        · exact congrArg (fun l => some (Rv.own l)) int_snoc.symm
        · intro z e1 e2 e3 e4; rw [put_ne e2, put_ne e1, put_ne e2, put_ne e3, put_ne e4]; unfold eG; rw [put_ne e3, put_ne e2, put_ne e1]
      · refine ⟨eInv_step (n := n.length) hi, _, .next, AsT.name (SoT.loc O.hk), ExT.post (BdT.cons (StT.asg (EvT.bin (EvT.bin (EvT.bin (EvT.cname O.hk rfl) EvT.cint (BinT.shl (by decide) (by decide) hlc)) (EvT.cname O.hk rfl) BinT.or) EvT.cint BinT.and) (SoT.loc O.hk)) (BdT.cons (StT.asg (EvT.bin (EvT.cname O.hk rfl) EvT.cint BinT.add) (SoT.loc O.hk)) (BdT.cons (StT.whl (n := 2) (WhT.step (TsW.cmp hu (EvT.cname O.hk rfl) EvT.cint (CmpT.geI.as (by rfl))).t
          (BdT.cons (StT.app O.hk rfl (EvT.b64 O (EvT.bin (EvT.bin (EvT.cname O.hk rfl) (EvT.bin (EvT.cname O.hk rfl) EvT.cint BinT.sub) (BinT.shr (show (0 : Int) ≤ 4 + 8 - 6 by decide))) EvT.cint BinT.and) (b63 _).1 (b63 _).2) hz) (BdT.cons (StT.asg (EvT.bin (EvT.cname O.hk rfl) EvT.cint BinT.sub) (SoT.loc O.hk)) BdT.nil)) (.inl rfl) (WhT.step (TsW.cmp hu (EvT.cname O.hk rfl) EvT.cint (CmpT.geI.as (by rfl))).t
          (BdT.cons (StT.app O.hk rfl (EvT.b64 O (EvT.bin (EvT.bin (EvT.cname O.hk rfl) (EvT.bin (EvT.cname O.hk rfl) EvT.cint BinT.sub) (BinT.shr (show (0 : Int) ≤ 4 + 8 - 6 - 6 by decide))) EvT.cint BinT.and) (b63 _).1 (b63 _).2) (hz2 _)) (BdT.cons (StT.asg (EvT.bin (EvT.cname O.hk rfl) EvT.cint BinT.sub) (SoT.loc O.hk)) BdT.nil)) (.inl rfl) (WhT.done (TsW.cmp hu (EvT.cname O.hk rfl) EvT.cint (CmpT.geI.as (by rfl))).t)))) BdT.nil))) (eG_post rfl ?_ rfl rfl ?_), .inl rfl⟩
        · exact congrArg (fun l => some (Rv.own l)) (int_snoc.trans (congrArg (· ++ [_]) int_snoc)).symm
        · intro z e1 e2 e3 e4; rw [put_ne e2, put_ne e1, put_ne e2, put_ne e1, put_ne e2, put_ne e3, put_ne e4]; unfold eG; rw [put_ne e3, put_ne e2, put_ne e1]
    case rest =>
      have hI : eInv 0 (ks.foldl eStep (0, 0, [])) := by
        have : ∀ (l : List Int) (st : Int × Int × List Int), eInv l.length st → eInv 0 (l.foldl eStep st) := by
          intro l
          induction l with
          | nil => exact fun _ h => h
          | cons a l ih => exact fun st h => ih _ (eInv_step h)
        exact this ks _ ⟨.inl rfl, by decide, by simp; lia⟩
      unfold encN at hn ⊢
      generalize ks.foldl eStep (0, 0, []) = st at hI hn ⊢
      obtain ⟨lb, lc, out⟩ := st
      obtain ⟨hlb, hlc, hlen⟩ := hI
      dsimp only at hlb hlc hlen
      have ho : out.length ≤ 100 := hlen
      have hm : (out.map Dat.int).length ≤ 100 := len_map ho
      rcases hlb with rfl | rfl | rfl
      · exact BdT.cons (StT.ifF (TsW.cmp hu (EvT.cname O.hk rfl) EvT.cint (CmpT.eqI.as (by rfl))).t (BdT.cons (StT.ifF (TsW.cmp hu (EvT.cname O.hk rfl) EvT.cint (CmpT.eqI.as (by rfl))).t BdT.nil) BdT.nil)) (BdT.cons (StT.ifF (TsT.plain (EvT.cname O.hk rfl) rfl (Nat.zero_le _)) BdT.nil) (ExT.frz (y := Str.ofString "out") rfl (BdT.retN (EvT.callY O (EvT.bltn O (by k_is) (by kernel_rfl)) (EvTs.cons (EvT.as (EvT.cname O.hk rfl) rfl) EvTs.nil) (CallT.bytesL (ns := out) hn (Nat.le_trans ho (by decide)))))))
      · have hr := bitAnd_range lc (y := 3) (by decide)
        have hb3 : (Builtin.bitAnd lc 3).natAbs < 2 ^ 64 := by lia
        have hb4 : 0 ≤ Builtin.bitAnd lc 3 * 2 ^ (4 : Int).toNat := Int.mul_nonneg hr.1 (by decide)
        have hb5 : Builtin.bitAnd lc 3 * 2 ^ (4 : Int).toNat < 64 := by show _ * 16 < 64; lia
        exact BdT.cons (StT.ifT (TsW.cmp hu (EvT.cname O.hk rfl) EvT.cint (CmpT.eqI.as (by rfl))).t (BdT.cons (StT.app O.hk rfl (EvT.b64 O (EvT.bin (EvT.bin (EvT.cname O.hk rfl) EvT.cint BinT.and) EvT.cint (BinT.shl (by decide) (by decide) hb3)) hb4 hb5) (Nat.le_trans hm (by decide))) (BdT.cons (StT.app O.hk rfl EvT.cint (Nat.le_trans (len_snoc_le hm) (by decide))) (BdT.cons (StT.app O.hk rfl EvT.cint (Nat.le_trans (len_snoc_le (len_snoc_le hm)) (by decide))) BdT.nil)))) (BdT.cons (StT.ifF (TsT.plain (EvT.cname O.hk rfl) rfl (Nat.zero_le _)) BdT.nil) (ExT.frz (y := Str.ofString "out") rfl (BdT.retN (EvT.callY O (EvT.bltn O (by k_is) (by kernel_rfl)) (EvTs.cons (EvT.as (EvT.cname O.hk rfl) (congrArg (fun l => Rv.d (.list l)) (int_snoc.trans (congrArg (· ++ [Dat.int 61]) (int_snoc.trans (congrArg (· ++ [Dat.int 61]) int_snoc)))).symm)) EvTs.nil) (CallT.bytesL (ns := out ++ [_] ++ [61] ++ [61]) hn (Nat.le_trans (len_snoc_le (len_snoc_le (len_snoc_le ho))) (by decide)))))))
      · have hr := bitAnd_range lc (y := 15) (by decide)
        have hb3 : (Builtin.bitAnd lc 15).natAbs < 2 ^ 64 := by lia
        have hb4 : 0 ≤ Builtin.bitAnd lc 15 * 2 ^ (2 : Int).toNat := Int.mul_nonneg hr.1 (by decide)
        have hb5 : Builtin.bitAnd lc 15 * 2 ^ (2 : Int).toNat < 64 := by show _ * 4 < 64; lia
        exact BdT.cons (StT.ifF (TsW.cmp hu (EvT.cname O.hk rfl) EvT.cint (CmpT.eqI.as (by rfl))).t (BdT.cons (StT.ifT (TsW.cmp hu (EvT.cname O.hk rfl) EvT.cint (CmpT.eqI.as (by rfl))).t (BdT.cons (StT.app O.hk rfl (EvT.b64 O (EvT.bin (EvT.bin (EvT.cname O.hk rfl) EvT.cint BinT.and) EvT.cint (BinT.shl (by decide) (by decide) hb3)) hb4 hb5) (Nat.le_trans hm (by decide))) (BdT.cons (StT.app O.hk rfl EvT.cint (Nat.le_trans (len_snoc_le hm) (by decide))) BdT.nil))) BdT.nil)) (BdT.cons (StT.ifF (TsT.plain (EvT.cname O.hk rfl) rfl (Nat.zero_le _)) BdT.nil) (ExT.frz (y := Str.ofString "out") rfl (BdT.retN (EvT.callY O (EvT.bltn O (by k_is) (by kernel_rfl)) (EvTs.cons (EvT.as (EvT.cname O.hk rfl) (congrArg (fun l => Rv.d (.list l)) (int_snoc.trans (congrArg (· ++ [Dat.int 61]) int_snoc)).symm)) EvTs.nil) (CallT.bytesL (ns := out ++ [_] ++ [61]) hn (Nat.le_trans (len_snoc_le (len_snoc_le ho)) (by decide)))))))
theorem b64_all : ∀ o ∈ allOct, (b64L o).length = 4 ∧ ∀ n ∈ b64L o, n < 128 := by decide +kernel
theorem oct_len123 : ∀ o ∈ allOct, 1 ≤ o.length ∧ o.length ≤ 3 := by decide +kernel
theorem enc_in {o : List Nat} (ho : o ∈ allOct) : KBa.In ((b64L o).map Int.ofNat) := fun n hn => by
  obtain ⟨k, hk, rfl⟩ := List.mem_map.mp hn
  exact ⟨Int.natCast_nonneg k, Int.ofNat_lt.mpr (Nat.lt_trans ((b64_all o ho).2 k hk) (by decide))⟩
theorem enc_T {b : Array UInt8} {o : List Nat} (ho : o ∈ allOct) (hb : KBw.bInts b = o.map Int.ofNat) : CallT 3 73 (.ref 174) [.d (.bytes b)] (.d (.bytes (byteArr ((b64L o).map Int.ofNat)))) := by
  have _key : (fun (_ : OpenLaw) (_ : Params → Frag) => True) PySem.Challenge.rw_kq0058_01 hd.heap_1 := by k_fill; trivial
  clear _key
  have hl := oct_len123 o ho
  have he := enc_all o ho
  have B := b2a_T hb (by rw [List.length_map]; exact hl.1) (by rw [List.length_map]; exact hl.2) (by rw [he]; exact enc_in ho)
  rw [he] at B
  refine' CallT.defD (d := 2) (u := 70) (es := [.d .none]) [Str.ofString "s", Str.ofString "altchars"] [.none] (fun _ _ => .cons .none .nil) (fun P => ?ho) (fun P => ?hcd) (fun w s vs X hv => ?hb) ?hok ?hfree ?hr ?h ?hco ?hgen
  case ho => k_is
  case hcd => k_is
  case hb =>
    refine len_one (P := fun vs => BindsTo s _ ⟨vs, []⟩ ([Str.ofString "s", Str.ofString "altchars"].zip (vs ++ [.none]))) (fun a => ?_) vs hv
    exact binds_K X rfl (by k_is) rfl rfl rfl
  case hok => rfl
  case hfree => rfl
  case hr => rfl
  case hco => rfl
  case hgen => rfl
  case h =>
    intro k O
    have hu := (O.le (Nat.le_refl _) (by decide : 64 ≤ 70)).un
    refine BdT.cons (StT.asg (EvT.callKW O (EvT.glob O (by k_is)) (EvTs.cons (EvT.cname O.hk rfl) EvTs.nil) EvT.cbool B (by intro P; k_is)) (SoT.loc O.hk)) ?_
    exact BdT.cons (StT.ifF (TsW.cmp hu (EvT.cname O.hk rfl) EvT.cnone CmpT.isNotNone).t BdT.nil) (BdT.retN (EvT.cname O.hk rfl))
end Mine
end
section
open PySem PySem.W PySem.W.X PyProof.Rows PyProof.Rows.LCg PySem.Builtin.Str
set_option maxRecDepth 100000
set_option Elab.async false
namespace Mine
section
variable {c : Fc} {env : Env} {Γ Γ₁ : Gm} {pos p2 : Pos} {e f g : Expr} {x y z r : Rv} {b1 b2 : Bool} {op1 op2 : CmpOp} {d u : Nat}
theorem TsW.cmp2 (hu : c.un + 64 < cLine) (ha : EvT c env Γ e x) (hb : EvT c env Γ f y) (h1 : CmpT op1 x y b1) (hc : EvT c env Γ g z) (h2 : CmpT op2 y z b2) (hm : lastMarks [op1, op2] [f, g] = false := by with_unfolding_all rfl) : TsW c env Γ (.Compare e [op1, op2] [f, g] pos) (b1 && b2) := ⟨fun xt mu fz m mm whole s Q E S q =>
  isTrue_chain (ha.run xt mu fz m mm s _ E S fun va f1 h1' k1 s1 S1 v1 => test_link (hb.run xt mu f1 m mm _ _ E S1 fun vb f2 h2' k2 s2 S2 v2 => h1.run hu S2 (v1.mono s2) v2 (wpAny_pure (a := b1) (by
    cases b1
    · exact q f2 h2' k2 (fun p hp => s2 p (s1 p hp)) S2
    · rw [if_pos rfl]
      exact test_last (hc.run xt mu f2 m mm _ _ E S2 fun vc f3 h3' k3 s3 S3 v3 => h2.run hu S3 (v2.mono s3) v3 (wpAny_pure (a := b2) (q f3 h3' k3 (fun p hp => s3 p (s2 p (s1 p hp))) S3)))))) ) hm⟩
theorem StT.tryR {body orelse : List Stmt} {h₀ : ExceptHandler} {hs : List ExceptHandler} (h : BdT c Γ body Γ₁ (.ret r)) : StT c Γ (.Try body (h₀ :: hs) orelse [] pos) Γ₁ (.ret r) := ⟨fun xt mu fz m s Q E S q =>
  wpAny_Try_except (h.run xt mu fz m s _ _ S fun fl m1 f1 mm1 h1 k1 s1 S1 e1 => by
    obtain ⟨v, rfl, hv⟩ := e1
    exact q _ m1 f1 mm1 h1 k1 s1 S1 ⟨v, rfl, hv⟩)⟩
theorem is_str {w : World} {A : Around} {E : Value → Shared → Prop} {s : Shared} {X : Str} {t : Tok} {Q : Value → Shared → Prop} (hq : ∀ tk', Q (.bool true) { s with toks := tk' }) : wpAny (model pw w) A (call (.builtin "isinstance") [.str X t, .type "str"]) Q E s :=
  go2 20 [] (tk := s.toks) (js := []) (r := .bool true) (by kernel_rfl) (fun _ h => nomatch h) (hq _)
theorem CallT.isStr {X : Str} : CallT d u (.builtin "isinstance") [.d (.str X), .val (.type "str")] (.d (.bool true)) := by
  constructor
  intro c env Γ xt mu fz m mm s Q E vs O S hvs q
  obtain ⟨_, _, rfl, h1, h2⟩ := hvs.inv2
  cases h2
  obtain ⟨t, rfl⟩ := DatIn.strE h1
  exact is_str fun tk => q _ fz s.heap tk (fun _ h => h) S (.bool _)
theorem MethT.encode {X : Str} : MethT (.d (.str X)) "encode" "str.encode" := MethT.ofS fun q => by with_reducible exact GM.of (.str X _) (typeIs_str _ _ _) F.slot_str_encode F.type_str_encode GM.noRef q
end
theorem BdT.ifR {c : Fc} {Γ : Gm} {e : Expr} {b1 rest : List Stmt} {b : Bool} {r : Rv} {pos : Pos} (h : TsT c c.env Γ e b) (h1 : b = true → BdT c Γ b1 (fun _ => none) (.ret r)) (h2 : b = false → BdT c Γ rest (fun _ => none) (.ret r)) : BdT c Γ (.If e b1 [] pos :: rest) (fun _ => none) (.ret r) := by
  cases b
  · exact BdT.cons (StT.ifF h BdT.nil) (h2 rfl)
  · exact BdT.ret (StT.ifT h (h1 rfl))
theorem bd_post {Γ0 Γ : Gm} {v z : Str} {r : Rv} (hv : Γ0 v = none) : ∀ {L : List (Str × Rv)}, (∀ p ∈ L, Γ p.1 = some p.2) → ((∀ p ∈ L, z ≠ p.1) → z ≠ v → Γ z = Γ0 z) → bd L Γ0 z = some r → Γ z = some r
  | [], _, h2, h => by
    by_cases e : z = v
    · subst e
      have h' : Γ0 z = some r := h
      rw [hv] at h'; cases h'
    · exact (h2 (fun _ h => nomatch h) e).trans h
  | p :: L, h1, h2, h => by
    unfold bd at h
    by_cases e : z = p.1
    · rw [if_pos e] at h
      rw [e, h1 p (.head _)]; exact h
    · rw [if_neg e] at h
      exact bd_post hv (fun q hq => h1 q (.tail _ hq)) (fun hL hz => h2 (fun q hq => by
        rcases List.mem_cons.mp hq with rfl | hq
        · exact e
        · exact hL q hq) hz) h
theorem put_off {Γ : Gm} {x z : Str} {r : Rv} {R : Option Rv} (h : z ≠ x) (e : Γ z = R) : put Γ x r z = R := (put_ne h).trans e
end Mine
end
section
open PySem PySem.W PySem.W.X PyProof.Rows PyProof.Rows.LCg PySem.Builtin.Str
set_option maxRecDepth 100000
set_option Elab.async false
namespace Mine
theorem UpdF.of {d : Addr} {o : Obj} {post : Led} (h2 : ∀ p ∈ post, p.1 ≠ d) : ∀ {pre : Led}, (∀ p ∈ pre, p.1 ≠ d) → UpdF d o (pre ++ (d, o) :: post) (fun o' => pre ++ (d, o') :: post)
  | [], _ => .head h2
  | _ :: _, h => .tail (h _ (.head _)) (UpdF.of h2 fun p hp => h p (.tail _ hp))
theorem Tb.upd {q : List Value → Prop} {tb : Led} (T : Tb q tb) {P : Addr} (hP : P ∈ [208, 89, 72]) : ∃ ps pre post, tb = pre ++ (P, tabObj ps) :: post ∧ TabR ps.toList ∧ (∀ p ∈ pre, p.1 ≠ P) ∧ (∀ p ∈ post, p.1 ≠ P) ∧ ∀ ps', TabR ps'.toList → Tb q (pre ++ (P, tabObj ps') :: post) := by
  obtain ⟨p1, p2, p3, p4, rfl, h1, h2, h3, h4⟩ := T
  simp only [List.mem_cons, List.not_mem_nil, or_false] at hP
  rcases hP with rfl | rfl | rfl
  · exact ⟨p1, [], _, rfl, h1, (fun _ h => nomatch h), by simp, fun q hq => ⟨q, p2, p3, p4, rfl, hq, h2, h3, h4⟩⟩
  · exact ⟨p2, [(208, tabObj p1)], _, rfl, h2, by simp, by simp, fun q hq => ⟨p1, q, p3, p4, rfl, h1, hq, h3, h4⟩⟩
  · exact ⟨p3, [(208, tabObj p1), (89, tabObj p2)], _, rfl, h3, by simp, by simp, fun q hq => ⟨p1, p2, q, p4, rfl, h1, h2, hq, h4⟩⟩
theorem tab3 {P : Addr} (h : P ∈ [208, 89, 72]) : P ∈ tabs := List.mem_append_left [242] h
section
variable {c : Fc} {Γ : Gm} {d u : Nat} {P cc : Addr} {params : Arguments} {body : Expr} {scope : Scope} {pos : Pos} {clos : List (Str × Addr)}
theorem Lam_E (O : c.Ok d u) (hP : P ∈ [208, 89, 72]) (hC : CodeHd c.g cc P) (hcc : c.ccd = .ref cc) (hd : defaultsOf params c.env = ([], [])) (hcl : closureFor scope c.env = pure clos) {xt mu fz : Led} {m : Str → Option Value} {s : Shared} {Q : Value → Shared → Prop} {E : Value → Shared → Prop} (S : Es c c.env Γ xt mu fz m m s.heap)
    (q : ∀ f fd fz' h' tk, (∀ p ∈ fz, p ∈ fz') → Es c c.env Γ xt mu fz' m m h' → (f, fnO fd) ∈ fz' → Q (.ref f) { s with heap := h', toks := tk }) : wpAny c.M c.A (eval (.Lambda params body scope pos) c.env) Q E s := by
  obtain ⟨tb, T, N⟩ := S.N
  obtain ⟨ps, pre, post, rfl, hps, h1, h2, hT⟩ := T.upd hP
  have e : ∀ o, xt ++ (mu ++ ((pre ++ (P, o) :: post) ++ fz)) = (xt ++ (mu ++ pre)) ++ (P, o) :: (post ++ fz) := fun o => by simp
  rw [e] at N
  have hx : ∀ p ∈ xt ++ (mu ++ fz), p.1 ≠ P := fun p hp h => S.ot p hp (h ▸ tab3 hP)
  have U : UpdF P (tabObj ps) ((xt ++ (mu ++ pre)) ++ (P, tabObj ps) :: (post ++ fz)) (fun o' => (xt ++ (mu ++ pre)) ++ (P, o') :: (post ++ fz)) := UpdF.of (fun p hp => by
      rcases List.mem_append.mp hp with hp | hp
      · exact h2 p hp
      · exact hx p (by simp [hp])) (fun p hp => by
      rcases List.mem_append.mp hp with hp | hp
      · exact hx p (by simp [hp])
      · rcases List.mem_append.mp hp with hp | hp
        · exact hx p (by simp [hp])
        · exact h1 p hp)
  refine kla_eval hd (lam_any S.F N O.T hC hcc U hps hcl fun f fd ps' h' tk F' N' tr l => ?_)
  rw [← e] at N'
  refine q f fd ((f, fnO fd) :: fz) h' tk (fun p hp => .tail _ hp) (S.alloc (hT ps' tr) F' N' fun p hp => ?_) (.head _)
  rw [e] at hp
  rcases List.mem_append.mp hp with hp | hp
  · exact l p (List.mem_append_left _ hp)
  · rcases List.mem_cons.mp hp with rfl | hp
    · exact l (P, tabObj ps) (List.mem_append_right _ (.head _))
    · exact l p (List.mem_append_right _ (.tail _ hp))
theorem MethT.pat {pt : Addr} {name : Str} {id : String} (hp : ∀ {w : World}, ((KK w).lookup pt).any isPat = true) (slot : Slot "re.Pattern" name id) (ty : typeOf (.builtin id) = pure (.type "method_descriptor")) : MethT (.val (.ref pt)) name id := by
  constructor
  intro c d u env Γ xt mu fz m mm s Q E v pl O S hv q
  cases hv
  exact getMethod_builtin (pat_is O.X S.F.keep hp).1 plainAttrs_re_Pattern slot ty (pat_is O.X S.F.keep hp).2 q
theorem EvT.subLam {o ve : Expr} {ap cpos : Pos} {pt : Addr} {x : Str} {pl : Sem Bool} (O : c.Ok d u) (hP : P ∈ [208, 89, 72]) (hC : CodeHd c.g cc P) (hcc : c.ccd = .ref cc) (hd : defaultsOf params c.env = ([], [])) (hcl : closureFor scope c.env = pure clos) (hp : ∀ {w : World}, ((KK w).lookup pt).any isPat = true)
    (hsub : ∀ {f : Addr} {fd : FuncData} {t : Tok} {m : Str → Option Value} {news : Led} {s : Shared} {Q E : Value → Shared → Prop}, Fr c.g c.L s.heap m → News c.g c.L s.heap news → (f, fnO fd) ∈ news → (∀ t' h' tk', Fr c.g c.L h' m → News c.g c.L h' news → Q (.str x t') { s with heap := h', toks := tk' }) → wpAny c.M c.A (call (.builtin "re.Pattern.sub") [.ref pt, .ref f, .str x t]) Q E s)
    (ho : EvT c c.env Γ o (.val (.ref pt))) (hv : EvT c c.env Γ ve (.d (.str x)))
    (he : eval (.Call (.Attribute o "sub" ap) [.Lambda params body scope pos, ve] [] cpos) c.env = (do
      let ov ← eval o c.env
      standAt ap.atName
      let (f, first) ← holding [ov] (getMethod ov "sub" pl)
      callWith cpos f first (backTo cpos (starEach [.Lambda params body scope pos, ve] c.env)) []) := by rfl)
    (h0 : starEach [.Lambda params body scope pos, ve] c.env = (false, eval (.Lambda params body scope pos) c.env) :: starEach [ve] c.env := by rfl) (h1 : starEach [ve] c.env = (false, eval ve c.env) :: starEach [] c.env := by rfl) (h2 : (backTo cpos (starEach [ve] c.env)).any (·.1) = false := by rfl) :
    EvT c c.env Γ (.Call (.Attribute o "sub" ap) [.Lambda params body scope pos, ve] [] cpos) (.d (.str x)) := by
  refine ⟨fun xt mu fz m mm s Q E S q => ?_⟩
  have hm : mm = m := by
    rcases S.hn with ⟨_, e⟩ | ⟨oC, h1, _⟩
    · exact e
    · exact absurd (show c.env.locals = c.L from rfl) (S.get (p := (c.env.locals, oC)) (.inl h1)).2.1
  subst hm
  refine MethodCall_ (ho.run xt mu fz mm mm s _ E S fun v f1 h1' k1 s1 S1 v1 => (MethT.pat hp slot_re_Pattern_sub type_re_Pattern_sub).run O S1 v1 ?_) he
  cases v1
  refine callWith_method1 (args_cons (Lam_E (s := { s with heap := h1', toks := k1 }) O hP hC hcc hd hcl S1 fun f fd f2 h2' k2 s2 S2 hf => args_cons (hv.run xt mu f2 mm mm { s with heap := h2', toks := k2 } _ E S2 fun w f3 h3' k3 s3 S3 v3 => args_nil ?_) h1) h0) h0 h2
  obtain ⟨t, rfl⟩ := DatIn.strE v3
  obtain ⟨tb, T, N⟩ := S3.N
  exact hsub (s := { s with heap := h3', toks := k3 }) S3.F N (List.mem_append_right _ (List.mem_append_right _ (List.mem_append_right _ (s3 _ hf)))) fun t' h' tk' F' N' => q _ f3 h' tk' (fun p hp => s3 p (s2 p (s1 p hp))) (S3.move F' ⟨tb, T, N'⟩) (.str _ _)
theorem TsT.full {o ve : Expr} {ap cpos : Pos} {v : List Nat} {b : Bool} {pl : Sem Bool} (O : c.Ok d u) (hb : if b = true then Mat v else NoMat v) (hl : v.length ≤ 100000) (ho : EvT c c.env Γ o (.val (.ref 82))) (hv : EvT c c.env Γ ve (.d (.str (S v))))
    (hi : ∀ whole, isTrue (.Call (.Attribute o "fullmatch" ap) [ve] [] cpos) c.env whole = (do let v ← whole; standAt (Expr.Call (.Attribute o "fullmatch" ap) [ve] [] cpos).pos; holding [v] (PySem.truthy v)) := by intro _; rfl)
    (he : eval (.Call (.Attribute o "fullmatch" ap) [ve] [] cpos) c.env = (do
      let ov ← eval o c.env
      standAt ap.atName
      let (f, first) ← holding [ov] (getMethod ov "fullmatch" pl)
      callWith cpos f first (backTo cpos (starEach [ve] c.env)) []) := by rfl)
    (h1 : starEach [ve] c.env = (false, eval ve c.env) :: starEach [] c.env := by rfl) (h2 : (backTo cpos (starEach [] c.env)).any (·.1) = false := by rfl) : TsT c c.env Γ (.Call (.Attribute o "fullmatch" ap) [ve] [] cpos) b := by
  refine ⟨fun xt mu fz m mm s Q E S q => ?_⟩
  refine isTrue_plain ?_ (hi _)
  refine MethodCall_ (ho.run xt mu fz m mm s _ E S fun w f1 h1' k1 s1 S1 v1 => (MethT.pat isPat82 slot_re_Pattern_fullmatch type_re_Pattern_fullmatch).run O S1 v1 ?_) he
  cases v1
  refine callWith_method1 (args_cons (hv.run xt mu f1 m mm { s with heap := h1', toks := k1 } _ E S1 fun w f3 h3' k3 s3 S3 v3 => args_nil ?_) h1) h1 h2
  obtain ⟨t, rfl⟩ := DatIn.strE v3
  obtain ⟨tb, T, N⟩ := S3.N
  cases b
  · exact fm_miss (s := { s with heap := h3', toks := k3 }) S3.F (O.X) hb hl (PyProof.Rows.truthy_none (q f3 h3' k3 (fun p hp => s3 p (s1 p hp)) S3))
  · refine fm_hit (s := { s with heap := h3', toks := k3 }) S3.F N O.X hb hl fun h' T' Mt oT vs F' N' l1 l2 => ?_
    have S4 : Es c c.env Γ xt mu ((Mt, { cls := .type "re.Match", data := .fields vs }) :: (T', oT) :: f3) m mm h' := by
      have n1 : ∀ p ∈ xt ++ (mu ++ (tb ++ f3)), p.1 < Mt := fun p hp => Nat.lt_trans (l1 p hp) l2
      refine S3.more F' ⟨tb, T, fun p hp => N' p ?_⟩ (fun p hp => .tail _ (.tail _ hp)) fun p hp => ?_
      · simp only [List.mem_append, List.mem_cons] at hp ⊢
        rcases hp with h | h | h | h | h | h <;> simp [h]
      · have key : (∀ q ∈ xt ++ (mu ++ (tb ++ f3)), q.1 < p.1) → p.1 ∉ (xt ++ mu).map (·.1) ∧ p.1 ∉ tabs := fun hlt => ⟨fun hm => by
            obtain ⟨q, hq, e⟩ := List.mem_map.mp hm
            have := hlt q (by simp only [List.mem_append] at hq ⊢; rcases hq with h | h <;> simp [h])
            exact Nat.lt_irrefl _ (e ▸ this), fun hm => by
            obtain ⟨o', ho'⟩ := T.mem _ hm
            exact Nat.lt_irrefl _ (hlt (p.1, o') (List.mem_append_right _ (List.mem_append_right _ (List.mem_append_left _ ho'))))⟩
        rcases List.mem_cons.mp hp with rfl | hp
        · exact .inr (key n1)
        · rcases List.mem_cons.mp hp with rfl | hp
          · exact .inr (key l1)
          · exact .inl hp
    exact mat_true2 (s := { s with heap := h', toks := k3 }) N' (.head _) (q _ h' k3 (fun p hp => .tail _ (.tail _ (s3 p (s1 p hp)))) S4)
end
end Mine
end
section
open PySem PySem.W PySem.W.X PyProof.Rows PyProof.Rows.LCg PySem.Builtin.Str
set_option maxRecDepth 100000
set_option maxHeartbeats 4000000
set_option Elab.async false
namespace Mine
theorem qS_q : Str.ofString "\"" = S [34] := by decide +kernel
local macro_rules | `(tactic| size_fits) => `(tactic| (rw [PySem.sizeLine_eq]; simp only [ql_app, ql_e, ql_eq, ql_q, S_len]; lia))
local macro_rules | `(tactic| kt_le) => `(tactic| (rw [PySem.sizeLine_eq]; simp only [ql_app, ql_e, ql_eq, ql_q, S_len]; lia))
theorem BinT.modQ {v : List Nat} (h : v.length ≤ 1000) : BinT .Mod (.d (.str (Str.ofString "\"%s\""))) (.d (.str (S v))) (.d (.str (S ([34] ++ v ++ [34])))) := by
  constructor
  intro w A mu fz s Q E va vb ha hb q
  have hSv : (S v).length ≤ 1000 := by rw [S_len]; exact h
  cases ha with
  | str _ t => cases hb with
    | str _ u =>
      refine' KPc.mod_str ?kpcF ?kpcl ?kpcm ?_
      case kpcF => kpc_eq
      case kpcl => exact Nat.le_trans hSv (by decide)
      case kpcm => k_dflt kpc_run_s
      intro t' k
      rw [qS_q, S_app, S_app]
      exact q _ _ (.str _ _)
theorem ItT.listM {α : Type} {t : Expr} {g : α → Dat} {l : List α} (ht : (∃ x p, t = .Name x p) ∨ ∃ es k p, t = .Tuple es k p) (hd : (∃ x p, t = .Name x p) ∨ ∀ d ∈ l.map g, ∃ l, d = .tuple l) : ItT t (.d (.list (l.map g))) (l.map fun a => .d (g a)) := by
  have := ItT.list ht hd
  rw [List.map_map] at this
  exact this
theorem bd_postL {Γ0 Γ : Gm} {vs : List Str} {z : Str} {r : Rv} (hv : ∀ v ∈ vs, Γ0 v = none) : ∀ {L : List (Str × Rv)}, (∀ p ∈ L, Γ p.1 = some p.2) → ((∀ p ∈ L, z ≠ p.1) → (∀ v ∈ vs, z ≠ v) → Γ z = Γ0 z) → bd L Γ0 z = some r → Γ z = some r
  | [], _, h2, h => by
    by_cases e : z ∈ vs
    · have h' : Γ0 z = some r := h
      rw [hv z e] at h'; cases h'
    · exact (h2 (fun _ h => nomatch h) fun v hv q => e (q ▸ hv)).trans h
  | p :: L, h1, h2, h => by
    unfold bd at h
    by_cases e : z = p.1
    · rw [if_pos e] at h
      rw [e, h1 p (.head _)]; exact h
    · rw [if_neg e] at h
      exact bd_postL hv (fun q hq => h1 q (.tail _ hq)) (fun hL hz => h2 (fun q hq => by
        rcases List.mem_cons.mp hq with rfl | hq
        · exact e
        · exact hL q hq) hz) h
end Mine
end
section
open PySem PySem.W PySem.W.X PyProof.Rows PyProof.Rows.LCg PySem.Builtin.Str
set_option maxRecDepth 100000
set_option Elab.async false
namespace Mine
structure JpT (c : Fc) (env : Env) (Γ : Gm) (es : List Expr) (acc out : List Nat) : Prop where
  run : ∀ xt mu fz m mm (s : Shared) (Q E : Value → Shared → Prop), Es c env Γ xt mu fz m mm s.heap →
    (∀ v fz' h' tk, (∀ p ∈ fz, p ∈ fz') → Es c env Γ xt mu fz' m mm h' → Rv.Is mu fz' (.d (.str (S out))) v → Q v { s with heap := h', toks := tk }) → wpAny c.M c.A (joinParts (S acc) (evalEach es env)) Q E s
section
variable {c : Fc} {env : Env} {Γ : Gm} {e e2 : Expr} {es : List Expr} {pos : Pos} {acc l out : List Nat}
theorem JpT.nil (hz : out.length ≤ 1000000) : JpT c env Γ [] out out := ⟨fun xt mu fz m mm s Q E S0 q =>
  joinParts_nil (q _ fz s.heap _ (fun _ h => h) S0 (.str _ _)) (by rw [S_len, sizeLine_eq]; lia)⟩
theorem JpT.cons (h : EvT c env Γ e (.d (.str (S l)))) (hz : (acc ++ l).length ≤ 1000000) (t : JpT c env Γ es (acc ++ l) out) : JpT c env Γ (e :: es) acc out := ⟨fun xt mu fz m mm s Q E S0 q => by
  refine joinParts_cons (h.run xt mu fz m mm s _ E S0 fun v f1 h1 k1 s1 S1 v1 => ?_)
  obtain ⟨u, rfl⟩ := DatIn.strE v1
  show ((S acc ++ S l).length ≤ sizeLine ∧ wpAny c.M c.A (joinParts (S acc ++ S l) (evalEach es env)) Q E _)
  rw [S_app]
  exact ⟨by rw [S_len, sizeLine_eq]; lia, t.run xt mu f1 m mm _ Q E S1 fun v f2 h2 k2 s2 S2 v2 => q v f2 h2 k2 (fun p hp => s2 p (s1 p hp)) S2 v2⟩⟩
theorem EvT.fstr (h : JpT c env Γ (e :: e2 :: es) [] out) : EvT c env Γ (.JoinedStr (e :: e2 :: es) pos) (.d (.str (S out))) := ⟨fun xt mu fz m mm s Q E S0 q =>
  JoinedStr_many (h.run xt mu fz m mm s Q E S0 q)⟩
theorem EvT.fv (h : EvT c env Γ e (.d (.str (S l)))) (hz : l.length ≤ 1000000) : EvT c env Γ (.FormattedValue e (-1) none pos) (.d (.str (S l))) := ⟨fun xt mu fz m mm s Q E S0 q =>
  FormattedValue_plain (h.run xt mu fz m mm s _ E S0 fun v f1 h1 k1 s1 S1 v1 => by
    obtain ⟨u, rfl⟩ := DatIn.strE v1
    exact formatField_str (fun t' tk => q _ f1 h1 tk s1 S1 (.str _ _)) (by rw [S_len, sizeLine_eq]; lia))⟩
theorem EvT.fvS (h : EvT c env Γ e (.d (.str (S l)))) (hz : l.length ≤ 1000000) : EvT c env Γ (.FormattedValue e 115 none pos) (.d (.str (S l))) := ⟨fun xt mu fz m mm s Q E S0 q =>
  wpAny_FormattedValue_s (h.run xt mu fz m mm s _ E S0 fun v f1 h1 k1 s1 S1 v1 => by
    obtain ⟨u, rfl⟩ := DatIn.strE v1
    refine SB.convS_str (fun t' tk => formatField_str (s := { s with heap := h1, toks := tk }) (fun t' tk => q _ f1 h1 tk s1 S1 (.str _ _)) (by rw [S_len, sizeLine_eq]; lia)) (by rw [S_len, sizeLine_eq]; lia))⟩
end
end Mine
end
section
open PySem PySem.W PySem.W.X PyProof.Rows PyProof.Rows.LCg PySem.Builtin.Str
set_option maxRecDepth 100000
set_option maxHeartbeats 4000000
set_option Elab.async false
namespace Mine
noncomputable abbrev tx (l : List Nat) : Dat := .str (S l)
noncomputable def pairD (p : KV) : Dat := .tuple [tx p.1, tx p.2]
noncomputable def rowD (r : List KV) : Dat := .list (r.map pairD)
noncomputable def rowT (r : List KV) : List Nat := joinL [59, 32] (r.map kvT)
noncomputable def hStep (hs : List (List Nat)) (r : List KV) : List (List Nat) := if r = [] then hs else hs ++ [rowT r]
noncomputable def headT (rows : List (List KV)) : List Nat := joinL [44, 32] (rows.foldl hStep [])
theorem hStep_len : ∀ (rows : List (List KV)) (hs : List (List Nat)), (rows.foldl hStep hs).length ≤ hs.length + rows.length
  | [], hs => Nat.le_refl _
  | r :: rows, hs => by
    rw [List.foldl_cons]
    refine Nat.le_trans (hStep_len rows _) ?_
    unfold hStep
    split <;> simp <;> lia
noncomputable def hG (Γ0 : Gm) (hs : List (List Nat)) : Gm := bd [(Str.ofString "headers", .own (hs.map tx))] Γ0
noncomputable def aG (Γ0 : Gm) (as : List (List Nat)) : Gm := bd [(Str.ofString "attr", .own (as.map tx))] Γ0
theorem tx_snoc {l : List (List Nat)} {a : List Nat} : (l ++ [a]).map tx = l.map tx ++ [tx a] := List.map_append
theorem joinL_len {g : List Nat} {k : Nat} : ∀ ts : List (List Nat), (∀ x ∈ ts, x.length ≤ k) → (joinL g ts).length ≤ ts.length * (k + g.length)
  | [], _ => Nat.zero_le _
  | x :: r, h => by
    have h1 : (r.flatMap (g ++ ·)).length ≤ r.length * (k + g.length) := by
      have : ∀ l : List (List Nat), (∀ x ∈ l, x.length ≤ k) → (l.flatMap (g ++ ·)).length ≤ l.length * (k + g.length) := by
        intro l
        induction l with
        | nil => intro _; exact Nat.zero_le _
        | cons y l ih =>
          intro hl
          rw [List.flatMap_cons, List.length_append, List.length_append, List.length_cons, Nat.succ_mul]
          have := ih fun x hx => hl x (.tail _ hx)
          have := hl y (.head _)
          lia
      exact this r fun x hx => h x (.tail _ hx)
    have h2 := h x (.head _)
    show (x ++ r.flatMap (g ++ ·)).length ≤ _
    rw [List.length_append, List.length_cons, Nat.succ_mul]
    lia
theorem kvT_len {p : KV} (h1 : p.1.length ≤ 100) (h2 : p.2.length ≤ 100) : (kvT p).length ≤ 203 := by
  unfold kvT Wr
  split <;> simp <;> lia
theorem hStep_mem {k : Nat} : ∀ (rows : List (List KV)) (hs : List (List Nat)), (∀ x ∈ hs, x.length ≤ k) → (∀ r ∈ rows, (rowT r).length ≤ k) → ∀ x ∈ rows.foldl hStep hs, x.length ≤ k
  | [], _, h, _ => h
  | r :: rows, hs, h, h2 => hStep_mem rows _ (by
      unfold hStep
      split
      · exact h
      · intro x hx
        rcases List.mem_append.mp hx with hx | hx
        · exact h x hx
        · rw [List.mem_singleton.mp hx]; exact h2 r (.head _)) fun r' hr => h2 r' (.tail _ hr)
theorem join_T {rows : List (List KV)} (hok : ∀ r ∈ rows, r.length ≤ 100 ∧ ∀ p ∈ r, p.1.length ≤ 100 ∧ OkV p.2) (hn : rows.length ≤ 40) : CallT 1 67 (.ref 94) [.d (.list (rows.map rowD))] (.d (.str (S (headT rows)))) := by
  have _key : (fun (_ : OpenLaw) (_ : Params → Frag) => True) PySem.Challenge.rw_kq0058_01 hd.heap_1 := by k_fill; trivial
  clear _key
  refine' CallT.def (d := 0) (u := 64) [Str.ofString "lists"] (fun P => ?ho) (fun P => ?hcd) (fun s => len_one fun a => BindsTo.of_eq ?hb) ?hok ?hfree ?hr ?h ?hco ?hgen
  case ho => k_is
  case hcd => k_is
  case hok => rfl
  case hfree => rfl
  case hr => rfl
  case hco => rfl
  case hgen => rfl
  case hb => rfl
  case h =>
    intro k O
    have hu := O.un
    refine BdT.cons (StT.newL O.hk) ?_
    refine BdT.cons (StT.for (EvT.cname O.hk rfl) (ItT.listM (.inl ⟨_, _, rfl⟩) (.inl ⟨_, _, rfl⟩)) (FoT.fold hStep (hG _) (fun l hs => (∀ r ∈ l, r.length ≤ 100 ∧ ∀ p ∈ r, p.1.length ≤ 100 ∧ OkV p.2) ∧ hs.length + l.length ≤ 40) (fun hs r l hi => ⟨?inv, ?turn⟩) rows [] ⟨hok, by simpa using hn⟩)) ?rest
    case inv =>
      refine ⟨fun r' hr => hi.1 r' (.tail _ hr), ?_⟩
      have h2 : hs.length + (l.length + 1) ≤ 40 := hi.2
      unfold hStep
      split <;> simp <;> lia
    case turn =>
      obtain ⟨hrl, hrp⟩ := hi.1 r (.head _)
      have hhs : hs.length ≤ 40 := Nat.le_trans (Nat.le_add_right _ _) hi.2
      refine ⟨_, .next, AsT.name (SoT.loc O.hk), BdT.cons (StT.newL O.hk) (BdT.cons (StT.for (EvT.cname O.hk rfl) (ItT.listM (.inr ⟨_, _, _, rfl⟩) (.inr ?tup)) (FoT.fold (fun as p => as ++ [kvT p]) (aG _) (fun l as => (∀ p ∈ l, p.1.length ≤ 100 ∧ OkV p.2) ∧ as.length + l.length ≤ 100) (fun as p l2 hi2 => ⟨?inv2, ?turn2⟩) r [] ?inv0)) ?rest2), .inl rfl⟩
      case tup =>
        intro d hd
        obtain ⟨p, _, rfl⟩ := List.mem_map.mp hd
        exact ⟨_, rfl⟩
      case inv0 => exact ⟨hrp, by show 0 + r.length ≤ 100; rw [Nat.zero_add]; exact hrl⟩
      case inv2 =>
        refine ⟨fun p' hp => hi2.1 p' (.tail _ hp), ?_⟩
        have h2 : as.length + (l2.length + 1) ≤ 100 := hi2.2
        rw [List.length_append]; show as.length + 1 + l2.length ≤ 100; lia
      case turn2 =>
        obtain ⟨kk, v⟩ := p
        obtain ⟨hk1, hov⟩ := hi2.1 _ (.head _)
        have hk1 : kk.length ≤ 1000 := Nat.le_trans hk1 (by decide)
        have hv1 : v.length ≤ 100 := hov.len
        have hm : (as.map tx).length ≤ 1000000 := len_map (Nat.le_trans (Nat.le_add_right _ _) (Nat.le_trans hi2.2 (by decide)))
        by_cases hb : v.all bc = true
        · have e : kvT (kk, v) = kk ++ [61] ++ v := by unfold kvT Wr; rw [if_pos hb]; simp
          rw [e]
          have hz9 : ([] ++ kk ++ [61] ++ v).length ≤ 1000000 := by simp; lia
          exact ⟨_, .next, AsT.pair (SoT.loc O.hk) (SoT.loc O.hk), ExT.post (BdT.cons (StT.ifT (TsW.cmp hu (EvT.cname O.hk rfl) EvT.cnone CmpT.isNotStr).t (BdT.cons (StT.ifF (TsW.not (b := true) (TsT.full O (by rw [if_pos rfl]; exact hov.jt hb) (Nat.le_trans hv1 (by decide)) (EvT.glob O (by k_is)) (EvT.cname O.hk rfl))).t BdT.nil) (BdT.cons (StT.asg (EvT.fstr (JpT.cons (EvT.fvS (EvT.cname O.hk rfl) (Nat.le_trans hk1 (by decide))) (Nat.le_trans hk1 (by decide)) (JpT.cons (EvT.cS [61]) (Nat.le_trans (len_snoc_le hk1) (by decide)) (JpT.cons (EvT.fvS (EvT.cname O.hk rfl) (Nat.le_trans hv1 (by decide))) hz9 (JpT.nil hz9))))) (SoT.loc O.hk)) BdT.nil))) (BdT.cons (StT.app O.hk rfl (EvT.cname O.hk rfl) hm) BdT.nil)) (fun z r => bd_postL (vs := [Str.ofString "k", Str.ofString "v"]) (List.forall_mem_cons.mpr ⟨rfl, List.forall_mem_cons.mpr ⟨rfl, fun _ h => (List.not_mem_nil h).elim⟩⟩) (List.forall_mem_cons.mpr ⟨(congrArg (fun l => some (Rv.own l)) tx_snoc.symm), fun _ h => (List.not_mem_nil h).elim⟩) (fun hL hz => (put_off (hL _ (.head _)) (put_off (hz _ (.head _)) (put_off (hz _ (.tail _ (.head _))) (put_off (hz _ (.head _)) (put_ne (x := Str.ofString "attr") (hL _ (.head _))))))))), .inl rfl⟩
        · have e : kvT (kk, v) = kk ++ [61] ++ ([34] ++ v ++ [34]) := by unfold kvT Wr; rw [if_neg hb]; simp
          rw [e]
          have hje := hov.jn hb
          have hz9 : ([] ++ kk ++ [61] ++ ([34] ++ v ++ [34])).length ≤ 1000000 := by simp; lia
          have hv2 : ([34] ++ v ++ [34]).length ≤ 1000 := by simp; lia
          have h0 : 0 < (S v).cps.size := by rw [show (S v).cps.size = v.length by simp]; exact hov.one
          have h9 : (S v).cps.size ≤ 100000 := by simpa using Nat.le_trans hv1 (by decide)
          exact ⟨_, .next, AsT.pair (SoT.loc O.hk) (SoT.loc O.hk), ExT.post (BdT.cons (StT.ifT (TsW.cmp hu (EvT.cname O.hk rfl) EvT.cnone CmpT.isNotStr).t (BdT.cons (StT.ifT (TsW.not (b := false) (TsT.full O (by rw [if_neg Bool.false_ne_true]; exact hje.1) (Nat.le_trans hv1 (by decide)) (EvT.glob O (by k_is)) (EvT.cname O.hk rfl))).t (BdT.cons (StT.asg (EvT.subLam O (.tail _ (.head _)) (code93 O.X) rfl rfl rfl isPat87 (fun F N hf q => sub87 F N O.X hf h0 h9 hje.2 (by decide) q) (EvT.glob O (by k_is)) (EvT.cname O.hk rfl)) (SoT.loc O.hk)) (BdT.cons (StT.asg (EvT.bin EvT.cstr (EvT.cname O.hk rfl) (BinT.modQ (Nat.le_trans hv1 (by decide)))) (SoT.loc O.hk)) BdT.nil))) (BdT.cons (StT.asg (EvT.fstr (JpT.cons (EvT.fvS (EvT.cname O.hk rfl) (Nat.le_trans hk1 (by decide))) (Nat.le_trans hk1 (by decide)) (JpT.cons (EvT.cS [61]) (Nat.le_trans (len_snoc_le hk1) (by decide)) (JpT.cons (EvT.fvS (EvT.cname O.hk rfl) (Nat.le_trans hv2 (by decide))) hz9 (JpT.nil hz9))))) (SoT.loc O.hk)) BdT.nil))) (BdT.cons (StT.app O.hk rfl (EvT.cname O.hk rfl) hm) BdT.nil)) (fun z r => bd_postL (vs := [Str.ofString "k", Str.ofString "v"]) (List.forall_mem_cons.mpr ⟨rfl, List.forall_mem_cons.mpr ⟨rfl, fun _ h => (List.not_mem_nil h).elim⟩⟩) (List.forall_mem_cons.mpr ⟨(congrArg (fun l => some (Rv.own l)) tx_snoc.symm), fun _ h => (List.not_mem_nil h).elim⟩) (fun hL hz => (put_off (hL _ (.head _)) (put_off (hz _ (.head _)) (put_off (hz _ (.tail _ (.head _))) (put_off (hz _ (.tail _ (.head _))) (put_off (hz _ (.tail _ (.head _))) (put_off (hz _ (.head _)) (put_ne (x := Str.ofString "attr") (hL _ (.head _))))))))))), .inl rfl⟩
      case rest2 =>
        rw [fold_build, List.nil_append]
        by_cases hr : r = []
        · subst hr
          rw [show hStep hs [] = hs from if_pos rfl]
          exact ExT.post (BdT.cons (StT.ifF (TsT.plain (EvT.cname O.hk rfl) rfl (Nat.zero_le _)) BdT.nil) BdT.nil) (fun z r => bd_postL (vs := [Str.ofString "attr", Str.ofString "pairs"]) (List.forall_mem_cons.mpr ⟨rfl, List.forall_mem_cons.mpr ⟨rfl, fun _ h => (List.not_mem_nil h).elim⟩⟩) (List.forall_mem_cons.mpr ⟨rfl, fun _ h => (List.not_mem_nil h).elim⟩) (fun hL hz => (put_off (hz _ (.head _)) (put_off (hz _ (.tail _ (.head _))) (put_ne (x := Str.ofString "headers") (hL _ (.head _)))))))
        · rw [show hStep hs r = hs ++ [rowT r] from if_neg hr]
          have hne : (!(((r.map kvT).map tx).map El.d).isEmpty) = true := by cases r with | nil => exact absurd rfl hr | cons _ _ => rfl
          have hl2 : (((r.map kvT).map tx).map El.d).length ≤ 1000000 := len_map (len_map (len_map (Nat.le_trans hrl (by decide))))
          refine ExT.post (BdT.cons (StT.ifT (TsT.plain (EvT.cname O.hk rfl) (congrArg some hne) hl2) (ExT.frz (y := Str.ofString "attr") rfl (BdT.cons (StT.app O.hk rfl (EvT.meth O (EvT.cS [59, 32]) MethT.join (EvTs.cons (EvT.cname O.hk rfl) EvTs.nil) (CallT.join (ts := r.map kvT) 203 ?l1 (by decide) ?l2)) (len_map (Nat.le_trans hhs (by decide)))) BdT.nil))) BdT.nil) (fun z r => bd_postL (vs := [Str.ofString "attr", Str.ofString "pairs"]) (List.forall_mem_cons.mpr ⟨rfl, List.forall_mem_cons.mpr ⟨rfl, fun _ h => (List.not_mem_nil h).elim⟩⟩) (List.forall_mem_cons.mpr ⟨(congrArg (fun l => some (Rv.own l)) tx_snoc.symm), fun _ h => (List.not_mem_nil h).elim⟩) (fun hL hz => (put_off (hL _ (.head _)) (put_off (hz _ (.head _)) (put_off (hz _ (.head _)) (put_off (hz _ (.tail _ (.head _))) (put_ne (x := Str.ofString "headers") (hL _ (.head _)))))))))
          · intro x hx
            obtain ⟨p, hp, rfl⟩ := List.mem_map.mp hx
            exact kvT_len (hrp p hp).1 (hrp p hp).2.len
          · rw [List.length_map]; lia
    case rest =>
      have hl1 : (rows.foldl hStep []).length ≤ 40 := Nat.le_trans (hStep_len rows []) (by show 0 + rows.length ≤ 40; lia)
      refine ExT.frz (y := Str.ofString "headers") rfl (BdT.retN (EvT.meth O (EvT.cS [44, 32]) MethT.join (EvTs.cons (EvT.cname O.hk rfl) EvTs.nil) (CallT.join (ts := rows.foldl hStep []) 20500 ?m1 (by decide) ?m2)))
      · refine hStep_mem rows [] (fun _ h => nomatch h) fun r hr => ?_
        have h1 := joinL_len (g := [59, 32]) (k := 203) (r.map kvT) fun x hx => by
          obtain ⟨p, hp, rfl⟩ := List.mem_map.mp hx
          exact kvT_len ((hok r hr).2 p hp).1 ((hok r hr).2 p hp).2.len
        rw [List.length_map] at h1
        have := (hok r hr).1
        show (joinL [59, 32] (r.map kvT)).length ≤ 20500
        have h3 : r.length * (203 + [59, 32].length) ≤ 20500 := by show r.length * 205 ≤ 20500; lia
        exact Nat.le_trans h1 h3
      · lia
end Mine
end
section
open PySem PySem.W PySem.W.X PyProof.Rows PyProof.Rows.LCg PySem.Builtin PySem.Builtin.Str
set_option maxRecDepth 100000
set_option Elab.async false
namespace Mine
theorem span_callL {w : World} {A : Around} {E : Value → Shared → Prop} {s : Shared} {h₀ : Heap} {L : Addr} {m : Str → Option Value} {news : List (Addr × Obj)} {Mt T : Addr} {x : Str} {t : Tok} {p : Addr} {lim : Nat} {b e b1 e1 : Nat} {u : Tok} {Q : Value → Shared → Prop} (F : Fr h₀ L s.heap m) (N : News h₀ L s.heap news)
    (hM : (Mt, matO x t p lim 1 T) ∈ news) (hT : (T, tupO [.int (b : Int) 0, .int (e : Int) 0, .int (b1 : Int) 0, .int (e1 : Int) 0]) ∈ news)
    (hq : ∀ h' tk' R t1 t2, Fr h₀ L h' m → News h₀ L h' ((R, tupO [.int (b : Int) t1, .int (e : Int) t2]) :: news) → (∀ q ∈ news, q.1 < R) → Q (.ref R) { s with heap := h', toks := tk' }) :
    wpAny (model pw w) A (call (.builtin "re.Match.span") [.ref Mt, .int 0 u]) Q E s := by
  refine wpAny_call_entry slot_re_Match_span (mat_is N hM rfl rfl).1 entry_re_Match_span ?_ (args_re_Match_span_2 _ _)
  unfold Builtin.«re.Match.span»
  refine wpAny_bind (pkr_wp (prog := pw) (w := w) (Q := _) _ s [matO x t p lim 1 T, tupO [.int (b : Int) 0, .int (e : Int) 0, .int (b1 : Int) 0, .int (e1 : Int) 0]] [Mt, T] s.toks (⟨#[.str x t, .ref p, .int 0 0, .int (lim : Int) 0, .int 1 0, .ref T], #[(b : Int), (e : Int), (b1 : Int), (e1 : Int)]⟩, 0) (by kernel_rfl) (.cons (N.get hM) (.cons (N.get hT) .nil)) ?_)
  refine wpAny_bind (wpAny_mkInt (wpAny_bind (wpAny_mkInt (wpAny_bind ?_))))
  have F' := F.push (tupO [.int (b : Int) s.toks, .int (e : Int) (s.toks + 1)])
  have N' := N.push F (tupO [.int (b : Int) s.toks, .int (e : Int) (s.toks + 1)]) rfl
  exact wpAny_newObj_type (wpAny_pure ⟨_, rfl, hq _ _ s.heap.objs.size s.toks (s.toks + 1) F' N' fun q hq => Heap.lt_size (N q hq).1⟩) (by show (2 : Nat) ≤ sizeLine; decide)
section
variable {c : Fc} {env : Env} {Γ : Gm} {d u : Nat} {l k : List Nat} {pp lim e b1 e1 : Nat} {pos : Pos}
theorem MethT.mt {name : Str} {id : String} (slot : Slot "re.Match" name id) (ty : typeOf (.builtin id) = pure (.type "method_descriptor")) : MethT (.mt l pp lim e b1 e1) name id := by
  constructor
  intro c d u env Γ xt mu fz m mm s Q E v pl O S hv q
  obtain ⟨Mt, Tt, t, rfl, h1, h2⟩ := hv
  obtain ⟨tb, T, N⟩ := S.N
  have hm := List.mem_append_right xt (List.mem_append_right mu (List.mem_append_right tb h1))
  exact getMethod_builtin (mat_is N hm rfl rfl).1 plainAttrs_re_Match slot ty (mat_is N hm rfl rfl).2 q
theorem CallT.span : CallT d u (.builtin "re.Match.span") [.mt l pp lim e b1 e1, .d (.int 0)] (.d (.tuple [.int 0, .int e])) := by
  constructor
  intro c env Γ xt mu fz m mm s Q E vs O S hvs q
  obtain ⟨_, _, rfl, h1, h2⟩ := hvs.inv2
  obtain ⟨u, rfl⟩ := DatIn.intE h2
  obtain ⟨Mt, Tt, t, rfl, hM, hT⟩ := h1
  obtain ⟨tb, T, N⟩ := S.N
  have up : ∀ {p}, p ∈ fz → p ∈ xt ++ (mu ++ (tb ++ fz)) := fun h => List.mem_append_right _ (List.mem_append_right _ (List.mem_append_right _ h))
  refine span_callL S.F N (up hM) (up hT) fun h' tk R t1 t2 F' N' l => ?_
  exact q _ _ h' tk (fun p hp => .tail _ hp) (S.alloc T F' N' l) (.tuple (vs := [_, _]) (.head _) (.cons (.int _ _) (.cons (.int _ _) .nil)))
theorem CallT.group (he : (S l).cps.extract b1 e1 = (S k).cps) (hz : l.length ≤ 100000) : CallT d u (.builtin "re.Match.group") [.mt l pp lim e b1 e1, .d (.int 1)] (.d (.str (S k))) := by
  constructor
  intro c env Γ xt mu fz m mm s Q E vs O S' hvs q
  obtain ⟨_, _, rfl, h1, h2⟩ := hvs.inv2
  obtain ⟨u, rfl⟩ := DatIn.intE h2
  obtain ⟨Mt, Tt, t, rfl, hM, hT⟩ := h1
  obtain ⟨tb, T, N⟩ := S'.N
  have up : ∀ {p}, p ∈ fz → p ∈ xt ++ (mu ++ (tb ++ fz)) := fun h => List.mem_append_right _ (List.mem_append_right _ (List.mem_append_right _ h))
  refine group1_call S'.F N (up hM) (up hT) (by rw [sizeLine_eq]; simp; lia) fun tk t1 => ?_
  rw [he]
  exact q _ fz s.heap tk (fun _ h => h) S' (.str _ _)
theorem EvT.mstr {x : Str} {p2 : Pos} (hk : env.scope.kind = .function) (h : Γ x = some (.mt l pp lim e b1 e1)) : EvT c env Γ (.Attribute (.Name x p2) "string" pos) (.d (.str (S l))) := ⟨fun xt mu fz m mm s Q E S0 q =>
  Attribute_name ((EvT.cname hk h).run xt mu fz m mm s _ E S0 fun v f1 h1 k1 s1 S1 v1 => by
    obtain ⟨Mt, Tt, t, rfl, hM, hT⟩ := v1
    obtain ⟨tb, T, N⟩ := S1.N
    exact mat_string N (List.mem_append_right xt (List.mem_append_right mu (List.mem_append_right tb hM))) fun tk => q _ f1 h1 tk s1 S1 (.str _ _))⟩
theorem TsT.mt {ex : Expr} (h : EvT c env Γ ex (.mt l pp lim e b1 e1)) (he : ∀ whole, isTrue ex env whole = (do let v ← whole; standAt ex.pos; holding [v] (PySem.truthy v)) := by intro _; rfl) : TsT c env Γ ex true := ⟨fun xt mu fz m mm s Q E S0 q =>
  isTrue_plain (h.run xt mu fz m mm s _ E S0 fun v f1 h1 k1 s1 S1 v1 => by
    obtain ⟨Mt, Tt, t, rfl, hM, hT⟩ := v1
    obtain ⟨tb, T, N⟩ := S1.N
    exact mat_true N (List.mem_append_right xt (List.mem_append_right mu (List.mem_append_right tb hM))) (q f1 h1 k1 s1 S1)) (he _)⟩
theorem CallT.srchHit {p : Addr} {code : Array Nat} {n : Nat} (hp : ∀ {w : World}, ((KK w).lookup p).any isPat = true) (pk : ∀ {w : World} {x : Str} {t : Tok}, peek (KK w) ⟨pw, w.params⟩ (Re.reTarget "re.Pattern.search" "search" ⟨[.ref p, .str x t], []⟩) = some (tgt x t p code 1)) (hx : l.length ≤ 100000)
    (h : Hits n (Sre.forSearch code (S l).cps 1 0 (S l).cps.size false) fun mm => Found mm 0 e #[some b1, some e1] 1 1) (hn : n ≤ 2 ^ 40) (hle : b1 ≤ e1) : CallT d u (.builtin "re.Pattern.search") [.val (.ref p), .d (.str (S l))] (.mt l p (S l).cps.size e b1 e1) := by
  constructor
  intro c env Γ xt mu fz m mm s Q E vs O S' hvs q
  obtain ⟨_, _, rfl, h1, h2⟩ := hvs.inv2
  cases h1
  obtain ⟨t, rfl⟩ := DatIn.strE h2
  obtain ⟨tb, T, N⟩ := S'.N
  refine search_hit S'.F N O.X hp pk (by simp; lia) h hn hle fun h' T' Mt F' N' l1 l2 => ?_
  have S2 := S'.alloc (fz := fz) T F' (fun p hp => N' p (.tail _ hp)) l1
  have S3 := S2.alloc T F' (fun p hp => N' p (by
    rcases List.mem_cons.mp hp with rfl | hp
    · exact .head _
    · simp only [List.mem_append, List.mem_cons] at hp ⊢
      rcases hp with h | h | h | h | h <;> simp [h])) (fun p hp => by
    simp only [List.mem_append, List.mem_cons] at hp
    rcases hp with h | h | h | h | h
    · exact Nat.lt_trans (l1 p (by simp [h])) l2
    · exact Nat.lt_trans (l1 p (by simp [h])) l2
    · exact Nat.lt_trans (l1 p (by simp [h])) l2
    · rw [h]; exact l2
    · exact Nat.lt_trans (l1 p (by simp [h])) l2)
  exact q _ _ h' s.toks (fun p hp => .tail _ (.tail _ hp)) S3 ⟨Mt, T', t, rfl, .head _, .tail _ (.head _)⟩
theorem CallT.srchMiss {p : Addr} {code : Array Nat} {g n : Nat} (hp : ∀ {w : World}, ((KK w).lookup p).any isPat = true) (pk : ∀ {w : World} {x : Str} {t : Tok}, peek (KK w) ⟨pw, w.params⟩ (Re.reTarget "re.Pattern.search" "search" ⟨[.ref p, .str x t], []⟩) = some (tgt x t p code g)) (hx : l.length ≤ 100000)
    (h : Hits n (Sre.forSearch code (S l).cps g 0 (S l).cps.size false) Failed) (hn : n ≤ 2 ^ 40) : CallT d u (.builtin "re.Pattern.search") [.val (.ref p), .d (.str (S l))] (.d .none) := by
  constructor
  intro c env Γ xt mu fz m mm s Q E vs O S' hvs q
  obtain ⟨_, _, rfl, h1, h2⟩ := hvs.inv2
  cases h1
  obtain ⟨t, rfl⟩ := DatIn.strE h2
  exact search_miss S'.F O.X hp pk (by simp; lia) h hn (q _ fz s.heap s.toks (fun _ h => h) S' .none)
end
end Mine
end
section
open PySem PySem.W PySem.W.X PyProof.Rows PyProof.Rows.LCg PySem.Builtin.Str
set_option maxRecDepth 100000
set_option maxHeartbeats 4000000
set_option Elab.async false
namespace Mine
theorem un_T {l : List Nat} {pp lim e b1 e1 : Nat} (hx : l.length ≤ 100000) (he : e ≤ l.length) : CallT 1 67 (.ref 50) [.mt l pp lim e b1 e1] (.d (.str (S (l.drop e)))) := by
  have _key : (fun (_ : OpenLaw) (_ : Params → Frag) => True) PySem.Challenge.rw_kq0058_01 hd.heap_1 := by k_fill; trivial
  clear _key
  refine' CallT.def (d := 0) (u := 64) [Str.ofString "match"] (fun P => ?ho) (fun P => ?hcd) (fun s => len_one fun a => BindsTo.of_eq ?hb) ?hok ?hfree ?hr ?h ?hco ?hgen
  case ho => k_is
  case hcd => k_is
  case hok => rfl
  case hfree => rfl
  case hr => rfl
  case hco => rfl
  case hgen => rfl
  case hb => rfl
  case h =>
    intro k O
    have hz : (S l).length ≤ 1000000 := by rw [S_len]; exact Nat.le_trans hx (by decide)
    refine BdT.cons (StT.pair (EvT.meth O (EvT.cname O.hk rfl) (MethT.mt slot_re_Match_span type_re_Match_span) (EvTs.cons EvT.cint EvTs.nil) CallT.span) (SoT.loc O.hk) (SoT.loc O.hk)) ?_
    refine BdT.retN (EvT.as (EvT.bin (EvT.sliceNS (EvT.mstr O.hk rfl) (EvT.cname O.hk rfl) hz) (EvT.sliceSN (EvT.mstr O.hk rfl) (EvT.cname O.hk rfl) hz) (BinT.cat ?_ ?_)) ?_)
    · rw [slice_to0]; decide
    · rw [slice_from l e he, S_len, List.length_drop]; omega
    · rw [slice_to0, slice_from l e he, S_app]; rfl
end Mine
end
section
open PySem PySem.W PySem.W.X PyProof.Rows PyProof.Rows.LCg PySem.Builtin.Str
set_option maxRecDepth 100000
set_option Elab.async false
namespace Mine
theorem CallT.subn {d n : Nat} {u r : List Nat} (hu0 : u ≠ []) (hr0 : r ≠ []) (hu : ∀ c ∈ u, junk c = true) (hr : ∀ c r', r = c :: r' → junk c = false) (hx : (u ++ r).length ≤ 100000) : CallT d n (.builtin "re.Pattern.subn") [.val (.ref 43), .d (.str (S [])), .d (.str (S (u ++ r)))] (.d (.tuple [.str (S r), .int 1])) := by
  constructor
  intro c env Γ xt mu fz m mm s Q E vs O S' hvs q
  obtain ⟨_, _, _, rfl, h1, h2, h3⟩ := hvs.inv3
  cases h1
  obtain ⟨t0, rfl⟩ := DatIn.strE h2
  obtain ⟨t, rfl⟩ := DatIn.strE h3
  obtain ⟨tb, T, N⟩ := S'.N
  exact subn43 S'.F N O.X hu0 hr0 hu hr hx fun t1 t2 A h' tk F' N' l => q _ _ h' tk (fun p hp => .tail _ hp) (S'.alloc T F' N' l) (.tuple (vs := [_, _]) (.head _) (.cons (.str _ _) (.cons (.int _ _) .nil)))
end Mine
end
section
open PySem PySem.W PySem.W.X PyProof.Rows PyProof.Rows.LCg PySem.Builtin.Str
set_option maxRecDepth 100000
set_option Elab.async false
namespace Mine
theorem WhT.run {c : Fc} {t : Expr} {b : List Stmt} {σ : Type} (stop : σ → Prop) (G : σ → Gm) (inv : Nat → σ → Prop)
    (h : ∀ n st, inv n st → (stop st ∧ TsT c c.env (G st) t false) ∨ ∃ m st' fl, n = m + 1 ∧ inv m st' ∧ TsT c c.env (G st) t true ∧ BdT c (G st) b (G st') fl ∧ (fl = .next ∨ fl = .cont)) : ∀ n st, inv n st → ∃ st' m, inv m st' ∧ stop st' ∧ WhT c t b n (G st) (G st')
  | 0, st, hi => by
    rcases h 0 st hi with ⟨h1, h2⟩ | ⟨m, _, _, h, _⟩
    · exact ⟨st, 0, hi, h1, .done h2⟩
    · cases h
  | n + 1, st, hi => by
    rcases h (n + 1) st hi with ⟨h1, h2⟩ | ⟨m, st', fl, e, hi', h2, h3, h4⟩
    · exact ⟨st, _, hi, h1, .done h2⟩
    · cases e
      obtain ⟨st2, m, h5, h6, h7⟩ := WhT.run stop G inv h n st' hi'
      exact ⟨st2, m, h5, h6, .step h2 h3 h4 h7⟩
theorem BdT.whl {c : Fc} {t : Expr} {b rest : List Stmt} {σ : Type} {Γ Γ₂ : Gm} {fl : Fl2} {pos : Pos} {n : Nat} {st : σ} (stop : σ → Prop) (G : σ → Gm) (inv : Nat → σ → Prop) (hi : inv n st) (hw : ∀ z r, G st z = some r → Γ z = some r)
    (h : ∀ n st, inv n st → (stop st ∧ TsT c c.env (G st) t false) ∨ ∃ m st' fl, n = m + 1 ∧ inv m st' ∧ TsT c c.env (G st) t true ∧ BdT c (G st) b (G st') fl ∧ (fl = .next ∨ fl = .cont)) (aft : ∀ m st', inv m st' → stop st' → BdT c (G st') rest Γ₂ fl) : BdT c Γ (.While t b [] pos :: rest) Γ₂ fl := by
  obtain ⟨st', m, h1, h2, h3⟩ := WhT.run stop G inv h n st hi
  exact ExT.weak hw (BdT.cons (StT.whl h3) (aft m st' h1 h2))
theorem StT.asrtM {c : Fc} {Γ : Gm} {e : Expr} {msg : Option Expr} {pos : Pos} (h : TsT c c.env Γ e true) : StT c Γ (.Assert e msg pos) Γ .next := ⟨fun xt mu fz m s Q E S q =>
  wpAny_Assert_holds (h.run xt mu fz m m s _ E S fun f1 h1 k1 s1 S1 => ⟨rfl, q _ mu f1 m h1 k1 s1 S1 rfl⟩)⟩
theorem CallT.isStrL {d u : Nat} {ds : List Dat} : CallT d u (.builtin "isinstance") [.d (.list ds), .val (.type "str")] (.d (.bool false)) := by
  constructor
  intro c env Γ xt mu fz m mm s Q E vs O S hvs q
  obtain ⟨_, _, rfl, h1, h2⟩ := hvs.inv2
  cases h2
  obtain ⟨_, _, _, rfl, hm, ha⟩ := DatIn.listE h1
  obtain ⟨tb, T, N⟩ := S.N
  exact list_no_str N (List.mem_append_right _ (List.mem_append_right _ (List.mem_append_right _ hm))) fun tk => q _ fz s.heap tk (fun _ h => h) S (.bool _)
noncomputable abbrev noG : Gm := fun _ => none
theorem bd_sub {Γ0 : Gm} {L L' : List (Str × Rv)} {z : Str} {r : Rv} (h0 : ∀ p ∈ L, Γ0 p.1 = none) (h1 : ∀ p ∈ L', bd L Γ0 p.1 = some p.2) (h : bd L' Γ0 z = some r) : bd L Γ0 z = some r := by
  have key : ∀ {L : List (Str × Rv)}, Γ0 z = some r → (∀ p ∈ L, Γ0 p.1 = none) → bd L Γ0 z = some r := by
    intro L
    induction L with
    | nil => exact fun h _ => h
    | cons p L ih =>
      intro h h0
      show (if z = p.1 then some p.2 else bd L Γ0 z) = some r
      by_cases e : z = p.1
      · have := h0 p (.head _)
        rw [← e, h] at this; cases this
      · rw [if_neg e]; exact ih h fun q hq => h0 q (.tail _ hq)
  induction L' with
  | nil => exact key h h0
  | cons p L' ih =>
    have h' : (if z = p.1 then some p.2 else bd L' Γ0 z) = some r := h
    by_cases e : z = p.1
    · rw [if_pos e] at h'; rw [e, h1 p (.head _)]; exact h'
    · rw [if_neg e] at h'; exact ih (fun q hq => h1 q (.tail _ hq)) h'
theorem all_one {α : Type} {P : α → Prop} {a : α} (h : P a) : ∀ x ∈ [a], P x := fun x hx => List.mem_singleton.mp hx ▸ h
theorem all_cons {α : Type} {P : α → Prop} {a : α} {l : List α} (h : P a) (h2 : ∀ x ∈ l, P x) : ∀ x ∈ a :: l, P x := List.forall_mem_cons.mpr ⟨h, h2⟩
end Mine
end
section
open PySem PySem.W PySem.W.X PyProof.Rows PyProof.Rows.LCg PySem.Builtin.Str PySem.Sre
set_option maxRecDepth 100000
set_option maxHeartbeats 4000000
set_option Elab.async false
namespace Mine
noncomputable def sG (st : List Nat × List KV × List (List KV)) : Gm := bd [(Str.ofString "pairs", .own (st.2.1.map pairD)), (Str.ofString "text", .d (.str (S st.1))), (Str.ofString "result", .own (st.2.2.map rowD))] noG
noncomputable def sI (total : List (List KV)) (n : Nat) (st : List Nat × List KV × List (List KV)) : Prop :=
  st.1.length ≤ 100000 ∧ st.2.1.length + st.2.2.length + n ≤ 1000 ∧ ∃ items : List (Bool × KV), (∀ x ∈ items, OkP x.2) ∧
    ((st.1 = tailT items ∧ (items ≠ [] → st.2.1 ≠ []) ∧ goalR st.2.2 st.2.1 items = total ∧ n = 2 * items.length) ∨
     ∃ ws p, (ws = [] ∨ ws = [32]) ∧ st.1 = ws ++ (kvT p ++ tailT items) ∧ OkP p ∧ goalR st.2.2 (st.2.1 ++ [p]) items = total ∧ n = 2 * items.length + 1)
theorem rowD_snoc {l : List (List KV)} {a : List KV} : (l ++ [a]).map rowD = l.map rowD ++ [rowD a] := List.map_append
theorem pairD_snoc {l : List KV} {a : KV} : (l ++ [a]).map pairD = l.map pairD ++ [pairD a] := List.map_append
theorem tailT_nil {items : List (Bool × KV)} (h : tailT items = []) : items = [] := by
  cases items with
  | nil => rfl
  | cons x r => obtain ⟨b, p⟩ := x; cases b <;> cases h
theorem split_T {t0 : List Nat} {total : List (List KV)} {n0 : Nat} (h0 : sI total n0 (t0, [], [])) : CallT 2 70 (.ref 77) [.d (.list [tx t0])] (.d (.list (total.map rowD))) := by
  have _key : (fun (_ : OpenLaw) (_ : Params → Frag) => True) PySem.Challenge.rw_kq0058_01 hd.heap_1 := by k_fill; trivial
  clear _key
  refine' CallT.def (d := 1) (u := 67) [Str.ofString "header_values"] (fun P => ?ho) (fun P => ?hcd) (fun s => len_one fun a => BindsTo.of_eq ?hb) ?hok ?hfree ?hr ?h ?hco ?hgen
  case ho => k_is
  case hcd => k_is
  case hok => rfl
  case hfree => rfl
  case hr => rfl
  case hco => rfl
  case hgen => rfl
  case hb => rfl
  case h =>
    intro k O
    have hu := (O.le (Nat.le_refl _) (by decide : 64 ≤ 67)).un
    refine BdT.cons (StT.asrtM (TsW.not (b := false) (TsT.plain (EvT.callB O (EvT.bltn O (by k_is) (by kernel_rfl)) (EvTs.cons (EvT.cname O.hk rfl) (EvTs.cons (EvT.bltn O (by k_is) (by kernel_rfl)) EvTs.nil)) CallT.isStrL) rfl (Nat.zero_le _))).t) ?_
    refine BdT.cons (StT.newL O.hk) ?_
    refine BdT.cons (Γ₁ := bd [(Str.ofString "result", .own (total.map rowD))] noG) (StT.for (EvT.cname O.hk rfl) (ItT.list (.inl ⟨_, _, rfl⟩) (.inl ⟨_, _, rfl⟩)) ?loop) ?rest
    case rest => exact ExT.frz (y := Str.ofString "result") rfl (BdT.retN (EvT.cname O.hk rfl))
    case loop =>
      refine FoT.cons (fl := .next) (AsT.name (SoT.loc O.hk)) (BdT.cons (StT.asg (EvT.cname O.hk rfl) (SoT.loc O.hk)) (BdT.cons (StT.newL O.hk) (BdT.whl (fun st => st.1 = []) sG (sI total) h0 ?w (fun n st hi => ?turn) (fun m st hi hs => ?aft)))) (.inl rfl) .nil
      case w => exact fun z r => bd_sub (L := [(Str.ofString "pairs", _), (Str.ofString "orig_text", _), (Str.ofString "text", _), (Str.ofString "result", _), (Str.ofString "header_values", _)]) (Γ0 := noG) (fun _ _ => rfl) (all_cons rfl (all_cons rfl (all_one rfl)))
      case aft =>
        obtain ⟨t, pr, done⟩ := st
        have hs : t = [] := hs
        subst hs
        obtain ⟨_, hz, items, _, ⟨ht, _, hg, _⟩ | ⟨ws, p, _, ht, _⟩⟩ := hi
        · have hi0 : items = [] := tailT_nil ht.symm
          subst hi0
          have hd : done.length ≤ 1000 := by have : pr.length + done.length + m ≤ 1000 := hz; lia
          have hg : goalR done pr [] = total := hg
          unfold goalR at hg
          by_cases hp : pr = []
          · subst hp
            rw [if_pos rfl, List.append_nil] at hg
            subst hg
            exact ExT.post (BdT.cons (StT.ifF (TsT.plain (EvT.cname O.hk rfl) rfl (Nat.zero_le _)) BdT.nil) BdT.nil) fun z r => bd_sub (L := [(Str.ofString "pairs", _), (Str.ofString "text", _), (Str.ofString "result", _)]) (Γ0 := noG) (fun _ _ => rfl) (all_one rfl)
          · rw [if_neg hp] at hg
            subst hg
            have hne : (!((pr.map pairD).map El.d).isEmpty) = true := by cases pr with | nil => exact absurd rfl hp | cons _ _ => rfl
            have hpl : ((pr.map pairD).map El.d).length ≤ 1000000 := by rw [List.length_map, List.length_map]; have : pr.length + done.length + m ≤ 1000 := hz; lia
            refine ExT.post (BdT.cons (StT.ifT (TsT.plain (EvT.cname O.hk rfl) (congrArg some hne) hpl) (ExT.frz (y := Str.ofString "pairs") rfl (BdT.cons (StT.app O.hk rfl (EvT.cname O.hk rfl) (len_map (Nat.le_trans hd (by decide)))) BdT.nil))) BdT.nil) fun z r => bd_sub (L := [(Str.ofString "result", _), (Str.ofString "pairs", _), (Str.ofString "pairs", _), (Str.ofString "text", _), (Str.ofString "result", _)]) (Γ0 := noG) (fun _ _ => rfl) (all_one (congrArg (fun l => some (Rv.own l)) (rowD_snoc (l := done) (a := pr)).symm))
        · exfalso
          have : ws ++ (kvT p ++ tailT items) = [] := ht.symm
          simp [kvT] at this
      case turn =>
        obtain ⟨t, pr, done⟩ := st
        obtain ⟨hlen, hz, items, hit, ⟨ht, hpr, hg, hn⟩ | ⟨ws, ⟨k', v⟩, hws, ht, ho, hg, hn⟩⟩ := hi
        · cases items with
          | nil =>
            left
            have ht : t = [] := ht
            subst ht
            exact ⟨rfl, TsT.plain (EvT.cname O.hk rfl) rfl (Nat.zero_le _)⟩
          | cons x items =>
            right
            obtain ⟨nr, k', v⟩ := x
            have hok : OkP (k', v) := hit _ (.head _)
            have hit2 : ∀ x ∈ items, OkP x.2 := fun x hx => hit x (.tail _ hx)
            have ht : t = tailT ((nr, k', v) :: items) := ht
            have hlen : t.length ≤ 100000 := hlen
            have hz : pr.length + done.length + n ≤ 1000 := hz
            have hn : n = 2 * (items.length + 1) := hn
            have hsz : (S t).length ≤ 1000000 := by rw [S_len]; lia
            have hne : some ((S t).length != 0) = some true := by rw [S_len, ht]; cases nr <;> rfl
            cases nr with
            | false =>
              obtain ⟨hm, hls, hsw, htx, hrj⟩ := B_false ht hok hlen
              refine ⟨2 * items.length + 1, (kvT (k', v) ++ tailT items, pr, done), .next, hn, ⟨?_, by show pr.length + done.length + _ ≤ 1000; lia, items, hit2, .inr ⟨[], (k', v), .inl rfl, rfl, hok, hg, rfl⟩⟩, TsT.plain (EvT.cname O.hk rfl) hne hsz, ?_, .inl rfl⟩
              · show (kvT (k', v) ++ tailT items).length ≤ 100000
                have := congrArg List.length htx
                rw [List.length_append (as := [59, 32])] at this; lia
              · have hr0 : kvT (k', v) ++ tailT items ≠ [] := by simp [kvT]
                refine ExT.post (BdT.cons (StT.asg (EvT.meth O (EvT.glob O (by k_is)) (MethT.pat isPat55 slot_re_Pattern_search type_re_Pattern_search) (EvTs.cons (EvT.cname O.hk rfl) EvTs.nil) (CallT.srchMiss isPat55 (pk_tok _ _) hlen hm (by decide))) (SoT.loc O.hk)) (BdT.cons (StT.ifF (TsT.plain (EvT.cname O.hk rfl) rfl (Nat.zero_le _)) (BdT.cons (StT.ifF (TsT.plain (EvT.meth O (EvT.meth0 O (EvT.cname O.hk rfl) MethT.lstrip (CallT.lstrip hsz)) MethT.startswith (EvTs.cons EvT.cstr EvTs.nil) CallT.startswith) (by rw [hls, hsw]; rfl) (Nat.zero_le _)) (BdT.cons (StT.pair (EvT.meth O (EvT.glob O (by k_is)) (MethT.pat isPat43 slot_re_Pattern_subn type_re_Pattern_subn) (EvTs.cons (EvT.cS []) (EvTs.cons (EvT.as (EvT.cname O.hk rfl) (congrArg (fun l => Rv.d (.str (S l))) htx)) EvTs.nil)) (CallT.subn (by decide) hr0 (by decide +kernel) hrj (htx ▸ hlen))) (SoT.loc O.hk) (SoT.loc O.hk)) (BdT.cons (StT.asrtM (TsW.cmp hu (EvT.cname O.hk rfl) EvT.cint (CmpT.gtI.as (by rfl))).t) (BdT.cons (StT.asg (EvT.cname O.hk rfl) (SoT.loc O.hk)) BdT.nil)))) BdT.nil)) BdT.nil)) fun z r => bd_sub (L := [(Str.ofString "text", _), (Str.ofString "nr_junk_chars", _), (Str.ofString "non_junk", _), (Str.ofString "m", _), (Str.ofString "pairs", _), (Str.ofString "text", _), (Str.ofString "result", _)]) (Γ0 := noG) (fun _ _ => rfl) (all_cons rfl (all_cons rfl (all_one rfl)))
            | true =>
              obtain ⟨hm, hls, hsw, hsl, hll⟩ := B_true ht hlen
              have hpr : pr ≠ [] := hpr (by simp)
              have hpl : 1 ≤ pr.length := List.length_pos_iff.mpr hpr
              have hne2 : (!((pr.map pairD).map El.d).isEmpty) = true := by cases pr with | nil => exact absurd rfl hpr | cons _ _ => rfl
              have hp2 : ((pr.map pairD).map El.d).length ≤ 1000000 := by rw [List.length_map, List.length_map]; lia
              have hd2 : (done.map rowD).length ≤ 1000000 := by rw [List.length_map]; lia
              refine ⟨2 * items.length + 1, ([32] ++ (kvT (k', v) ++ tailT items), [], done ++ [pr]), .next, hn, ⟨?_, ?_, items, hit2, .inr ⟨[32], (k', v), .inr rfl, rfl, hok, hg, rfl⟩⟩, TsT.plain (EvT.cname O.hk rfl) hne hsz, ?_, .inl rfl⟩
              · show ([32] ++ (kvT (k', v) ++ tailT items)).length ≤ 100000
                lia
              · show 0 + (done ++ [pr]).length + _ ≤ 1000
                rw [List.length_append]; show 0 + (done.length + 1) + _ ≤ 1000; lia
              · refine ExT.post (BdT.cons (StT.asg (EvT.meth O (EvT.glob O (by k_is)) (MethT.pat isPat55 slot_re_Pattern_search type_re_Pattern_search) (EvTs.cons (EvT.cname O.hk rfl) EvTs.nil) (CallT.srchMiss isPat55 (pk_tok _ _) hlen hm (by decide))) (SoT.loc O.hk)) (BdT.cons (StT.ifF (TsT.plain (EvT.cname O.hk rfl) rfl (Nat.zero_le _)) (BdT.cons (StT.ifT (TsT.plain (EvT.meth O (EvT.meth0 O (EvT.cname O.hk rfl) MethT.lstrip (CallT.lstrip hsz)) MethT.startswith (EvTs.cons EvT.cstr EvTs.nil) CallT.startswith) (by rw [hls, hsw]; rfl) (Nat.zero_le _)) (BdT.cons (StT.asg (EvT.as (EvT.sliceSN (EvT.as (EvT.meth0 O (EvT.cname O.hk rfl) MethT.lstrip (CallT.lstrip hsz)) (congrArg (fun x => Rv.d (.str x)) hls)) EvT.cint hsz) (congrArg (fun x => Rv.d (.str x)) hsl)) (SoT.loc O.hk)) (BdT.cons (StT.ifT (TsT.plain (EvT.cname O.hk rfl) (congrArg some hne2) hp2) (ExT.frz (y := Str.ofString "pairs") rfl (BdT.cons (StT.app O.hk rfl (EvT.cname O.hk rfl) hd2) BdT.nil))) (BdT.cons (StT.newL O.hk) BdT.nil)))) BdT.nil)) BdT.nil)) fun z r => bd_sub (L := [(Str.ofString "pairs", _), (Str.ofString "result", _), (Str.ofString "pairs", _), (Str.ofString "text", _), (Str.ofString "m", _), (Str.ofString "pairs", _), (Str.ofString "text", _), (Str.ofString "result", _)]) (Γ0 := noG) (fun _ _ => rfl) (all_cons rfl (all_cons rfl (all_one (congrArg (fun l => some (Rv.own l)) (rowD_snoc (l := done) (a := pr)).symm))))
        · right
          have hne : some ((S t).length != 0) = some true := by rw [S_len, show t = ws ++ (k' ++ 61 :: (Wr v ++ tailT items)) from by rw [show t = _ from ht]; simp [kvT]]; simp
          obtain ⟨txt1, h1'⟩ : ∃ txt1, txt1 = 61 :: (Wr v ++ tailT items) := ⟨_, rfl⟩
          have ht' : t = ws ++ (k' ++ txt1) := by rw [show t = _ from ht, h1']; simp [kvT]
          have hwsp : ∀ c ∈ ws, sp c = true := by rcases hws with rfl | rfl <;> decide +kernel
          have hlen : t.length ≤ 100000 := hlen
          have hz : pr.length + done.length + n ≤ 1000 := hz
          have hsz : (S t).length ≤ 1000000 := by rw [S_len]; lia
          have hll : ws.length + k'.length + txt1.length = t.length := by rw [ht']; simp; lia
          have hx1 : txt1.length ≤ 100000 := by lia
          have he0 : ws.length + k'.length ≤ t.length := by lia
          obtain ⟨a1, a2, a3⟩ := A_tok (items := items) ho hwsp ht' h1' hlen
          have hv2 : 2 ≤ v.length := ho.v2
          have hle : (tailT items).length ≤ 100000 := by have := congrArg List.length h1'; rw [List.length_cons, List.length_append] at this; lia
          have hpl : (pr.map pairD).length ≤ 1000000 := by rw [List.length_map]; lia
          refine ⟨2 * items.length, (tailT items, pr ++ [(k', v)], done), .next, hn, ⟨hle, ?_, items, hit, .inl ⟨rfl, fun _ => by simp, hg, rfl⟩⟩, TsT.plain (EvT.cname O.hk rfl) hne hsz, ?_, .inl rfl⟩
          · show (pr ++ [(k', v)]).length + done.length + _ ≤ 1000
            rw [List.length_append]; show pr.length + 1 + done.length + _ ≤ 1000; lia
          · by_cases hb : v.all bc = true
            · obtain ⟨b1, b2, b3, b4⟩ := A_bare ho hb h1' hx1
              have hl2 : 1 + v.length ≤ txt1.length := by rw [h1']; unfold Wr; rw [if_pos hb]; simp; lia
              have hrs : Txt.rstrip (S v) = S v := rstrip_id fun c hc => (bc_sp (List.all_eq_true.mp hb c hc)).1
              have hvl : (S v).length ≤ 1000000 := by rw [S_len]; lia
              refine ExT.post (BdT.cons (StT.asg (EvT.meth O (EvT.glob O (by k_is)) (MethT.pat isPat55 slot_re_Pattern_search type_re_Pattern_search) (EvTs.cons (EvT.cname O.hk rfl) EvTs.nil) (CallT.srchHit isPat55 (pk_tok _ _) hlen a1 (by decide) (Nat.le_add_right _ _))) (SoT.loc O.hk)) (BdT.cons (StT.ifT (TsT.mt (EvT.cname O.hk rfl)) (BdT.cons (StT.asg (EvT.as (EvT.callK O (EvT.glob O (by k_is)) (EvTs.cons (EvT.cname O.hk rfl) EvTs.nil) (un_T hlen he0) (by intro P; k_is)) (congrArg (fun l => Rv.d (.str (S l))) a2)) (SoT.loc O.hk)) (BdT.cons (StT.asg (EvT.meth O (EvT.cname O.hk rfl) (MethT.mt slot_re_Match_group type_re_Match_group) (EvTs.cons EvT.cint EvTs.nil) (CallT.group (congrArg Str.cps a3) hlen)) (SoT.loc O.hk)) (BdT.cons (StT.asg (EvT.meth O (EvT.glob O (by k_is)) (MethT.pat isPat60 slot_re_Pattern_search type_re_Pattern_search) (EvTs.cons (EvT.cname O.hk rfl) EvTs.nil) (CallT.srchMiss isPat60 (pk_quo _ _) hx1 b1 (by decide))) (SoT.loc O.hk)) (BdT.cons (StT.ifF (TsT.plain (EvT.cname O.hk rfl) rfl (Nat.zero_le _)) (BdT.cons (StT.asg (EvT.meth O (EvT.glob O (by k_is)) (MethT.pat isPat65 slot_re_Pattern_search type_re_Pattern_search) (EvTs.cons (EvT.cname O.hk rfl) EvTs.nil) (CallT.srchHit isPat65 (pk_val _ _) hx1 b2 (by decide) (Nat.le_add_right _ _))) (SoT.loc O.hk)) (BdT.cons (StT.ifT (TsT.mt (EvT.cname O.hk rfl)) (BdT.cons (StT.asg (EvT.as (EvT.callK O (EvT.glob O (by k_is)) (EvTs.cons (EvT.cname O.hk rfl) EvTs.nil) (un_T hx1 hl2) (by intro P; k_is)) (congrArg (fun l => Rv.d (.str (S l))) b3)) (SoT.loc O.hk)) (BdT.cons (StT.asg (EvT.meth O (EvT.cname O.hk rfl) (MethT.mt slot_re_Match_group type_re_Match_group) (EvTs.cons EvT.cint EvTs.nil) (CallT.group (congrArg Str.cps b4) hx1)) (SoT.loc O.hk)) (BdT.cons (StT.asg (EvT.as (EvT.meth0 O (EvT.cname O.hk rfl) MethT.rstrip (CallT.rstrip hvl)) (congrArg (fun x => Rv.d (.str x)) hrs)) (SoT.loc O.hk)) BdT.nil)))) BdT.nil))) (BdT.cons (StT.app O.hk rfl (EvT.tup (ds := [tx k', tx v]) (EvTs.cons (EvT.cname O.hk rfl) (EvTs.cons (EvT.cname O.hk rfl) EvTs.nil)) (by show 2 ≤ 1000; decide)) hpl) BdT.nil)))))) BdT.nil)) fun z r => bd_sub (L := [(Str.ofString "pairs", _), (Str.ofString "value", _), (Str.ofString "value", _), (Str.ofString "text", _), (Str.ofString "m", _), (Str.ofString "m", _), (Str.ofString "name", _), (Str.ofString "text", _), (Str.ofString "m", _), (Str.ofString "pairs", _), (Str.ofString "text", _), (Str.ofString "result", _)]) (Γ0 := noG) (fun _ _ => rfl) (all_cons (congrArg (fun l => some (Rv.own l)) (pairD_snoc (l := pr) (a := (k', v))).symm) (all_cons rfl (all_one rfl)))
            · obtain ⟨b1, b2, b3⟩ := A_quo ho hb h1' hx1
              have hl2 : 2 + v.length + 1 ≤ txt1.length := by rw [h1']; unfold Wr; rw [if_neg hb]; simp; lia
              have e9 : (S v).cps.size = v.length := by simp
              have h0 : 0 < (S v).cps.size := by rw [e9]; lia
              have h9 : (S v).cps.size ≤ 100000 := by rw [e9]; lia
              refine ExT.post (BdT.cons (StT.asg (EvT.meth O (EvT.glob O (by k_is)) (MethT.pat isPat55 slot_re_Pattern_search type_re_Pattern_search) (EvTs.cons (EvT.cname O.hk rfl) EvTs.nil) (CallT.srchHit isPat55 (pk_tok _ _) hlen a1 (by decide) (Nat.le_add_right _ _))) (SoT.loc O.hk)) (BdT.cons (StT.ifT (TsT.mt (EvT.cname O.hk rfl)) (BdT.cons (StT.asg (EvT.as (EvT.callK O (EvT.glob O (by k_is)) (EvTs.cons (EvT.cname O.hk rfl) EvTs.nil) (un_T hlen he0) (by intro P; k_is)) (congrArg (fun l => Rv.d (.str (S l))) a2)) (SoT.loc O.hk)) (BdT.cons (StT.asg (EvT.meth O (EvT.cname O.hk rfl) (MethT.mt slot_re_Match_group type_re_Match_group) (EvTs.cons EvT.cint EvTs.nil) (CallT.group (congrArg Str.cps a3) hlen)) (SoT.loc O.hk)) (BdT.cons (StT.asg (EvT.meth O (EvT.glob O (by k_is)) (MethT.pat isPat60 slot_re_Pattern_search type_re_Pattern_search) (EvTs.cons (EvT.cname O.hk rfl) EvTs.nil) (CallT.srchHit isPat60 (pk_quo _ _) hx1 b1 (by decide) (Nat.le_add_right _ _))) (SoT.loc O.hk)) (BdT.cons (StT.ifT (TsT.mt (EvT.cname O.hk rfl)) (BdT.cons (StT.asg (EvT.as (EvT.callK O (EvT.glob O (by k_is)) (EvTs.cons (EvT.cname O.hk rfl) EvTs.nil) (un_T hx1 hl2) (by intro P; k_is)) (congrArg (fun l => Rv.d (.str (S l))) b2)) (SoT.loc O.hk)) (BdT.cons (StT.asg (EvT.meth O (EvT.cname O.hk rfl) (MethT.mt slot_re_Match_group type_re_Match_group) (EvTs.cons EvT.cint EvTs.nil) (CallT.group (congrArg Str.cps b3) hx1)) (SoT.loc O.hk)) (BdT.cons (StT.asg (EvT.subLam O (.tail _ (.tail _ (.head _))) (code76 O.X) rfl rfl rfl isPat70 (fun F N hf q => sub70 F N O.X hf h0 h9 ho.esc (by decide) q) (EvT.glob O (by k_is)) (EvT.cname O.hk rfl)) (SoT.loc O.hk)) BdT.nil)))) (BdT.cons (StT.app O.hk rfl (EvT.tup (ds := [tx k', tx v]) (EvTs.cons (EvT.cname O.hk rfl) (EvTs.cons (EvT.cname O.hk rfl) EvTs.nil)) (by show 2 ≤ 1000; decide)) hpl) BdT.nil)))))) BdT.nil)) fun z r => bd_sub (L := [(Str.ofString "pairs", _), (Str.ofString "value", _), (Str.ofString "value", _), (Str.ofString "text", _), (Str.ofString "m", _), (Str.ofString "name", _), (Str.ofString "text", _), (Str.ofString "m", _), (Str.ofString "pairs", _), (Str.ofString "text", _), (Str.ofString "result", _)]) (Γ0 := noG) (fun _ _ => rfl) (all_cons (congrArg (fun l => some (Rv.own l)) (pairD_snoc (l := pr) (a := (k', v))).symm) (all_cons rfl (all_one rfl)))
end Mine
end
section
open PySem PySem.W PySem.W.X PyProof.Rows PySem.Builtin
set_option maxRecDepth 100000
set_option Elab.async false
namespace Mine
noncomputable abbrev objO : Obj := { cls := .type "object" }
section
variable {w : World} {A : Around} {E : Value → Shared → Prop} {s : Shared} {h₀ : Heap} {L : Addr} {m : Str → Option Value} {news news' : List (Addr × Obj)}
theorem get_append {l : Addr} {its : Array Value} {n : Nat} {Q : Value → Shared → Prop} (F : Fr h₀ L s.heap m) (N : News h₀ L s.heap news) (hl : (l, lstO its n) ∈ news)
    (hq : ∀ q h' tk', Fr h₀ L h' m → News h₀ L h' ((q, bmO "list.append" l) :: news) → (∀ p ∈ news, p.1 < q) → Q (.ref q) { s with heap := h', toks := tk' }) :
    wpAny (model pw w) A (getAttr (.ref l) "append" true) Q E s :=
  go2 20 (List.replicate 6 (l, .old (lstO its n))) (tk := s.toks + 1) (js := [bmO "list.append" l]) (r := .ref s.heap.objs.size) (by kernel_rfl) (reps_ok (N.get hl)) (hq _ _ _ (F.push _) (N.push F _ rfl) fun p hp => Heap.lt_size (N p hp).1)
end
end Mine
end
section
open PySem PySem.W PySem.W.X PyProof.Rows PySem.Builtin PySem.Calls PySem.Builtin.Str
set_option maxRecDepth 100000
set_option Elab.async false
namespace Mine
noncomputable def intKeysB (es : Array DictEntry) : Bool := es.toList.all fun e => match e.key with | .int k _ => e.hash == hashInt k | _ => false
noncomputable def missB (o : Obj) (k : Int) : Bool := match o with
  | ⟨.type t, _, .dict es _, _⟩ => t == "dict" && intKeysB es && !(es.toList.any fun e => Value.isInt k e.key)
  | _ => false
theorem intMap_of {h : Heap} {d : Addr} {o : Obj} {k : Int} (ho : h.get? d = some o) (e : missB o k = true) : ∃ f, h.IntMap d f ∧ f k = none := by
  unfold missB at e
  split at e
  · rename_i t x es ep sl
    simp only [Bool.and_eq_true, beq_iff_eq, Bool.not_eq_true'] at e
    obtain ⟨⟨rfl, hk⟩, hm⟩ := e
    refine ⟨fun k => findBy Value.isInt es k, ⟨_, es, ep, ho, rfl, rfl, fun q hq => ?_, fun _ => rfl⟩, ?_⟩
    · have := List.all_eq_true.mp hk q (by simpa using hq)
      split at this
      · rename_i i t hkey
        exact ⟨i, t, hkey, by simpa using this⟩
      · cases this
    · show (es.find? fun e => Value.isInt k e.key).map (·.val) = none
      rw [List.any_eq_false] at hm
      have : es.find? (fun e => Value.isInt k e.key) = none := by
        rw [Array.find?_eq_none]
        intro x hx
        exact hm x (by simpa using hx)
      rw [this]; rfl
  · cases e
section
variable {prog : Program} {w : World} {A : Around} {E : Value → Shared → Prop} {s : Shared}
theorem getItem_miss {d : Addr} {f : Int → Option Value} {k : Int} {t : Tok} {Q : Value → Shared → Prop} (hh : A.handled = none) (hm : s.heap.IntMap d f) (hv : f k = none)
    (h : ∀ h' e tk', Heap.MadeExc s.heap h' e "KeyError" [.int k t] → E (.ref e) { s with heap := h', toks := tk' }) : wpAny (model prog w) A (getItem (.ref d) (.int k t)) Q E s := by
  unfold getItem
  try with_reducible refine wpAny_holding ?_
  first | refine wpAny_bind (wpAny_pure ?_) | skip
  refine wpAny_bind (wpAny_sequenceKey hm.typeIs (by decide) ?_)
  refine wpAny_bind (wpAny_callSpecial?_slot (name := PySem.Str.ofString "__getitem__") hm.typeIs slot_dict_getitem
    (wpAny_call_entry slot_dict_getitem hm.typeIs entry_dict_getitem ?_ (args_dict_getitem _ _)))
  show wpAny _ _ (dictGet d (.int k t) >>= _) _ _ s
  refine wpAny_bind (wpAny_dictGet_int hm ?_)
  rw [hv]
  show wpAny _ _ (Builtin.Dict.missed d (.int k t) >>= _) _ _ _
  refine wpAny_bind (wpAny_missed_int ?_)
  show wpAny _ _ (typeOf (.ref d) >>= _) _ _ _
  refine wpAny_bind (wpAny_typeOf (T := "dict") hm.typeIs ?_)
  show wpAny _ _ (rule _ >>= _) _ _ _
  refine wpAny_bind (x_rule (wpAny_pure ?_))
  refine wpAny_bind (wpAny_newExc_plain plainExc_KeyError (fun h' e hx => ?_) (by show 1 ≤ sizeLine; decide))
  exact wpAny_raiseNew_none hh (h h' e _ hx)
theorem lookup_keep {d : Addr} {f : Int → Option Value} {c : Nat} {Q : Str.Mapped → Shared → Prop} (hh : A.handled = none) (hm : s.heap.IntMap d f) (hv : f c = none)
    (h : ∀ h' tk', (∀ b o, s.heap.get? b = some o → h'.get? b = some o) → Q .keep { s with heap := h', toks := tk' }) : wpAny (model prog w) A (Str.tableLookup (.ref d) c) Q E s := by
  unfold Str.tableLookup
  refine wpAny_bind (wpAny_attempt (wpAny_bind (wpAny_mkInt ?_)))
  refine getItem_miss (s := { s with toks := s.toks + 1 }) hh hm hv fun h' e tk' hx => ?_
  obtain ⟨tt, ho, _⟩ := hx.there
  show wpAny _ _ (isInstance (.ref e) (.type "LookupError") >>= _) _ _ _
  refine wpAny_bind (wpAny_isInstance (T := "KeyError") (b := true) ⟨_, ho, rfl⟩ (by rw [isSubtype_type]; kernel_rfl) ?_)
  show wpAny _ _ (rule _ >>= _) _ _ _
  exact wpAny_bind (x_rule (wpAny_pure (wpAny_pure (h _ _ fun b o e => hx.keeps b o e))))
theorem translate1 {d : Addr} {f : Int → Option Value} {c : Nat} {t : Tok} {Q : Value → Shared → Prop} (hh : A.handled = none) (hm : s.heap.IntMap d f) (hv : f c = none) (hc : c < 128)
    (h : ∀ t' h' tk', (∀ b o, s.heap.get? b = some o → h'.get? b = some o) → Q (.str (S [c]) t') { s with heap := h', toks := tk' }) : wpAny (model prog w) A (call (.builtin "str.translate") [.str (S [c]) t, .ref d]) Q E s := by
  refine wpAny_call_entry F.slot_str_translate (typeIs_str _ _ _) F.entry_str_translate ?_ (F.args_str_translate_2 _ _)
  unfold Builtin.«str.translate»
  show wpAny _ _ (strOneArg "translate" ⟨[.str (S [c]) t, .ref d], []⟩ >>= _) _ _ s
  refine wpAny_bind (wpAny_of_eq (a := (.str (S [c]) t, S [c], .ref d)) rfl ?_)
  dsimp only
  rw [if_neg (show ¬ ((S [c]).length == 0) = true from Bool.false_ne_true)]
  have hall : (#[c].all fun x => decide (x < 128)) = true := by simp [hc]
  rw [hall]
  refine wpAny_bind ?_
  show wpAny _ _ ((Str.tableLookup (.ref d) c >>= _) >>= _) _ _ _
  refine wpAny_bind (wpAny_bind (lookup_keep hh hm hv fun h' tk' hk => ?_))
  show wpAny _ _ (pure (ForInStep.yield _)) _ _ _
  refine wpAny_pure ?_
  show wpAny _ _ (pure _) _ _ _
  refine wpAny_pure ?_
  show wpAny _ _ (retStr (S [c])) _ _ _
  exact wpAny_bind (wpAny_mkStr (wpAny_pure ⟨_, rfl, h _ _ _ hk⟩) (by show (1 : Nat) ≤ sizeLine; decide))
end
end Mine
end
section
open PySem PySem.W PySem.W.X PyProof.Rows PySem.Builtin PySem.Calls PySem.Builtin.Str PySem.Sre
set_option maxRecDepth 100000
set_option Elab.async false
namespace Mine
noncomputable def cTW1 : Array Nat := #[14, 14, 4, 1, 1, 9, 0, 64, 0, 1342177280, 0, 0, 0, 0, 0, 17, 0, 13, 11, 9, 0, 64, 0, 1342177280, 0, 0, 0, 0, 0, 17, 1, 1]
section
variable {w : World} {A : Around} {E : Value → Shared → Prop} {s : Shared} {h₀ : Heap} {L : Addr} {m : Str → Option Value} {news : List (Addr × Obj)}
theorem pk_whole187 (x : Str) (t : Tok) : peek (KK w) ⟨pw, w.params⟩ (PySem.Builtin.Re.reWholeTarget (.ref 187) (.str x t)) = some { pattern := .ref 187, string := .str x t, code := cTW1, text := x.cps, kind := 0, groups := 1, pos := 0, lim := x.cps.size } := by kernel_rfl
theorem sub187 {f : Addr} {fd : FuncData} {x : Str} {t : Tok} {b : Nat} {Q : Value → Shared → Prop} (F : Fr h₀ L s.heap m) (N : News h₀ L s.heap news) (X : (KK w).In h₀) (hf : (f, fnO fd) ∈ news) (hx0 : 0 < x.cps.size) (hx : x.cps.size ≤ 100000)
    (hit : Hits b (Sre.forSearch cTW1 x.cps 1 0 x.cps.size false) Failed) (hb : b ≤ 2 ^ 40)
    (hq : ∀ t' h' tk', Fr h₀ L h' m → News h₀ L h' news → Q (.str x t') { s with heap := h', toks := tk' }) :
    wpAny (model pw w) A (call (.builtin "re.Pattern.sub") [.ref 187, .ref f, .str x t]) Q E s :=
  sub_of (q := 186) (fun tk n0 => by kernel_rfl) (by kernel_rfl) (by kernel_rfl) (by kernel_rfl) F N X (pk_whole187 x t) hf hx0 hx hit hb hq
theorem runs_fail {m : M} (n : Nat) (e : (M.runFor n m).outcome = some .failed) : Hits n m Failed := ⟨_, ⟨n, Nat.le_refl _, rfl⟩, e⟩
theorem replace_none {x y z : Str} {t u v : Tok} {Q : Value → Shared → Prop} (e : (occurrences x y 0 x.length (x.length + 1)).isEmpty = true) (hq : Q (.str x t) s) : wpAny (model pw w) A (call (.builtin "str.replace") [.str x t, .str y u, .str z v]) Q E s :=
  call_gives F.slot_str_replace (typeIs_str _ _ _) F.entry_str_replace (F.args_str_replace_3 _ _ _) (gives_str_replace x y z t u v fun h => by rw [e] at h; cases h) (by rw [e]; exact hq)
theorem keep_both {h' : Heap} (F : Fr h₀ L s.heap m) (N : News h₀ L s.heap news) (k : ∀ b o, s.heap.get? b = some o → h'.get? b = some o) : Fr h₀ L h' m ∧ News h₀ L h' news := by
  refine ⟨fr_same F ?_ fun b o e => k _ _ (F.keep b o e), fun p hp => ⟨k _ _ (N p hp).1, (N p hp).2⟩⟩
  obtain ⟨oL, a1, a2, hg, a3⟩ := F.ns
  rw [hg]; exact k _ _ hg
theorem translateX {x : Str} {c : Nat} {t : Tok} {Q : Value → Shared → Prop} (hh : A.handled = none) (F : Fr h₀ L s.heap m) (N : News h₀ L s.heap news) (X : (KK w).In h₀) (e : x = S [c]) (hK : (KK w).lookup 196 = some (oK w 196)) (hmiss : missB (oK w 196) c = true) (hc : c < 128)
    (h : ∀ t' h' tk', Fr h₀ L h' m → News h₀ L h' news → Q (.str x t') { s with heap := h', toks := tk' }) : wpAny (model pw w) A (call (.builtin "str.translate") [.str x t, .ref 196]) Q E s := by
  subst e
  obtain ⟨f, hm, hv⟩ := intMap_of (pk_in X F.keep hK) hmiss
  exact translate1 hh hm hv hc fun t' h' tk' hk => have z := keep_both F N hk; h t' h' tk' z.1 z.2
theorem k196 : (KK w).lookup 196 = some (oK w 196) := by kernel_rfl
theorem m97 : missB (oK w 196) (97 : Nat) = true := by kernel_rfl
theorem m98 : missB (oK w 196) (98 : Nat) = true := by kernel_rfl
theorem m49 : missB (oK w 196) (49 : Nat) = true := by kernel_rfl
theorem m50 : missB (oK w 196) (50 : Nat) = true := by kernel_rfl
theorem getm_translate {M : Model} {x : Str} {t : Tok} {pl : Sem Bool} {Q : Value × List Value → Shared → Prop} (h : Q (.builtin "str.translate", [.str x t]) s) : wpAny M A (getMethod (.str x t) "translate" pl) Q E s :=
  by with_reducible exact GM.of (.str x t) (typeIs_str _ _ _) F.slot_str_translate F.type_str_translate GM.noRef h
theorem new_object {Q : Value → Shared → Prop} (F : Fr h₀ L s.heap m) (N : News h₀ L s.heap news)
    (hq : ∀ q h' tk', Fr h₀ L h' m → News h₀ L h' ((q, objO) :: news) → (∀ p ∈ news, p.1 < q) → Q (.ref q) { s with heap := h', toks := tk' }) :
    wpAny (model pw w) A (call (.type "object") []) Q E s :=
  go2 20 (List.replicate 3 (s.heap.objs.size, .new 0)) (tk := s.toks) (js := [objO]) (r := .ref s.heap.objs.size) (by kernel_rfl) (fun p hp => by rw [List.eq_of_mem_replicate hp]; rfl) (hq _ _ _ (F.push _) (N.push F _ rfl) fun p hp => Heap.lt_size (N p hp).1)
end
end Mine
end
section
open PySem PySem.W PySem.W.X PyProof.Rows PyProof.Rows.LCg PySem.Builtin PySem.Builtin.Str
set_option maxRecDepth 100000
set_option Elab.async false
namespace Mine
theorem ElAll.get {fz : Led} {vs : List Value} {es : List El} (h : ElAll fz vs es) : ∀ {k : Nat} {e : El}, es[k]? = some e → ∃ v, vs[k]? = some v ∧ e.Is fz v := by
  induction h with
  | nil => intro k e h; cases h
  | cons a _ ih =>
    intro k e h
    cases k with
    | zero => cases h; exact ⟨_, rfl, a⟩
    | succ k => exact ih h
structure Star (rS : Rv) (eS : El) : Prop where
  add : ∀ mu fz v, rS.Is mu fz v → eS.Is fz v
  ne : ∀ x, CmpT .IsNot (.d (.str x)) rS true
  free : rS.free = true
theorem Star.none : Star (.d .none) (.d .none) := ⟨fun _ _ _ h => h, fun _ => CmpT.isNotStr, rfl⟩
theorem CmpT.isNotStrR {x : Str} {a : Addr} : CmpT .IsNot (.d (.str x)) (.val (.ref a)) true := by
  constructor
  intro c env Γ xt mu fz m mm s Q E va vb _ _ ha hb q
  cases ha with | str _ t => cases hb; exact wpAny_isNot_other rfl (fun e => nomatch e) q
theorem CmpT.isR {a : Addr} : CmpT .Is (.val (.ref a)) (.val (.ref a)) true := by
  constructor
  intro c env Γ xt mu fz m mm s Q E va vb _ _ ha hb q
  cases ha; cases hb
  show wpAny _ _ (do return .bool (← isSame _ _)) Q E s
  exact wpAny_bind (wpAny_isSame_ref_self (wpAny_pure q))
theorem CmpT.isNotR {a : Addr} : CmpT .IsNot (.val (.ref a)) (.val (.ref a)) false := by
  constructor
  intro c env Γ xt mu fz m mm s Q E va vb _ _ ha hb q
  cases ha; cases hb
  show wpAny _ _ (do return .bool (!(← isSame _ _))) Q E s
  exact wpAny_bind (wpAny_isSame_ref_self (wpAny_pure q))
theorem Star.obj {a : Addr} : Star (.val (.ref a)) (.at a) := ⟨fun _ _ _ h => h, fun _ => CmpT.isNotStrR, rfl⟩
theorem CmpT.inT {x : Str} {ys : List Str} : CmpT .In (.d (.str x)) (.d (.tuple (ys.map .str))) (ys.any (· == x)) := by
  constructor
  intro c env Γ xt mu fz m mm s Q E va vb _ S ha hb q
  cases ha with
  | str _ t => cases hb with
    | tuple hm hd =>
      have key : ∀ {ys : List Str} {vs : List Value}, DatAll fz vs (ys.map .str) → StrsAre vs ys := by
        intro ys
        induction ys with
        | nil => intro vs h; cases h; exact .nil
        | cons y ys ih => intro vs h; cases h with | cons a b => cases a; exact .cons _ _ (ih b)
      exact in_tuple_strs ⟨_, (S.get (.inr (.inr hm))).1, rfl, _, rfl⟩ (by simpa using key hd) q
section
variable {c : Fc} {env : Env} {Γ Γ₂ : Gm} {d u : Nat} {x y : Str} {ad : Option Addr} {l : List El} {e : El} {r : Rv} {fl : Fl2} {p1 p2 p3 p4 px py ap cp pos : Pos} {k : Nat} {ex ix value f : Expr} {rest : List Stmt} {i : Int}
theorem EvT.itemM (hk : env.scope.kind = .function) (hx : Γ x = some (.ownE ad (l ++ [e]))) (hz : l.length ≤ 1000)
    (hs : ∀ a u, subscripted (.UnaryOp .USub (.Constant (.int 1) k p2) p3) false (.ref a) (.int (-1) u) = operate [.ref a, .int (-1) u] (getItem (.ref a) (.int (-1) u)) := by intros; with_unfolding_all rfl) : EvT c env Γ (.Subscript (.Name x p1) (.UnaryOp .USub (.Constant (.int 1) k p2) p3) p4) e.rv := by
  refine ⟨fun xt mu fz m mm s Q E S q => ?_⟩
  refine Subscript_ ((EvT.cname hk hx).run xt mu fz m mm s _ E S fun va f1 e1 k1 s1 S1 v1 => (EvT.neg (c := c) (Γ := Γ)).run xt mu f1 m mm _ _ E S1 fun vi f2 e2 k2 s2 S2 v2 => ?_)
  obtain ⟨u, rfl⟩ := DatIn.intE v2
  obtain ⟨a, vs, n, rfl, _, hm, ha⟩ := v1
  have hl := ha.length
  rw [List.length_append] at hl
  obtain ⟨v, g1, g2⟩ := (ha.mono s2).get (k := l.length) (e := e) (by simp)
  obtain ⟨tb, T, N⟩ := S2.N
  have hl' : vs.length = l.length + 1 := hl
  exact kba_turn (value' := nmV) (fun _ => rfl) (kim_back (s := { s with heap := e2, toks := k2 }) N (List.mem_append_right _ (List.mem_append_left _ hm)) rfl rfl (by decide) (by rw [hl']; lia) (by decide) (by rw [hl', show ((-1 : Int) + ((l.length + 1 : Nat) : Int)).toNat = l.length from by lia]; exact g1) (q _ f2 e2 k2 (fun p hp => s2 p (s1 p hp)) S2 (El.rvIs g2)) (hs _ _) (fun _ => rfl))
theorem EvT.itemE (hv : EvT c env Γ value (.lsE l)) (hi : EvT c env Γ ix (.d (.int i))) (h0 : 0 ≤ i) (h1 : i < 2 ^ 63) (hd : l[i.toNat]? = some e)
    (hs : ∀ a u, subscripted ix false (.ref a) (.int i u) = operate [.ref a, .int i u] (getItem (.ref a) (.int i u)) := by intros; with_unfolding_all rfl) : EvT c env Γ (.Subscript value ix pos) e.rv := by
  refine ⟨fun xt mu fz m mm s Q E S q => ?_⟩
  refine Subscript_ (hv.run xt mu fz m mm s _ E S fun va f1 e1 k1 s1 S1 v1 => hi.run xt mu f1 m mm _ _ E S1 fun vi f2 e2 k2 s2 S2 v2 => ?_)
  obtain ⟨u, rfl⟩ := DatIn.intE v2
  obtain ⟨a, vs, n, rfl, hm, ha⟩ := v1
  obtain ⟨v, g1, g2⟩ := (ha.mono s2).get hd
  obtain ⟨tb, T, N⟩ := S2.N
  exact kba_turn (value' := nmV) (fun _ => rfl) (kim_list (s := { s with heap := e2, toks := k2 }) N (List.mem_append_right _ (List.mem_append_right _ (List.mem_append_right _ (s2 _ hm)))) rfl rfl h0 h1 g1 (q _ f2 e2 k2 (fun p hp => s2 p (s1 p hp)) S2 (El.rvIs g2)) (hs _ _) (fun _ => rfl))
theorem CallT.lenE (h : l.length ≤ 10000) : CallT d u (.builtin "len") [.lsE l] (.d (.int l.length)) := by
  constructor
  intro c env Γ xt mu fz m mm s Q E vs O S hvs q
  obtain ⟨_, rfl, h1⟩ := hvs.inv1
  obtain ⟨a, vs, n, rfl, hm, ha⟩ := h1
  exact kun_lenL ⟨_, (S.get (.inr (.inr hm))).1, rfl, _, rfl⟩ (k := l.length) (by rw [List.size_toArray, ha.length]) (by lia) (q _ fz s.heap _ (fun _ h => h) S (.int _ _))
theorem Es.told {xt mu fz : Led} {m : Str → Option Value} {h : Heap} {a : Addr} (S : Es c c.env Γ xt mu fz m m h) (hx : Γ x = some (.ownE ad l)) (hw : Nm c.env m mu x (.ref a)) {vs : List Value} {n : Nat} (hm : (a, lstO (List.toArray vs) n) ∈ mu) (ha : ElAll fz vs l) : Es c c.env (put Γ x (.ownE (some a) l)) xt mu fz m m h := by
  refine ⟨S.F, S.N, S.nd, S.of, S.ot, S.hn, fun z r e => ?_, S.ce, fun z z' az az' lz lz' u ez ez' nz nz' => ?_⟩
  · by_cases q : z = x
    · subst q
      rw [put_eq] at e; cases e
      exact ⟨_, hw, a, vs, n, rfl, (fun b h => (Option.some.inj h).symm), hm, ha⟩
    · rw [put_ne q] at e
      exact S.lc z r e
  · have own : ∀ {z : Str} {az : Option Addr} {lz : List El}, put Γ x (.ownE (some a) l) z = some (.ownE az lz) → ∃ a' l', Γ z = some (.ownE a' l') := fun {z az lz} ez => by
      by_cases qz : z = x
      · subst qz; exact ⟨_, _, hx⟩
      · rw [put_ne qz] at ez; exact ⟨_, _, ez⟩
    obtain ⟨a1, l1, e1⟩ := own ez
    obtain ⟨a2, l2, e2⟩ := own ez'
    exact S.sep z z' _ _ _ _ u e1 e2 nz nz'
theorem BdT.bound (hk : c.cs.kind = .function) (hx : Γ x = some (.ownE none l)) (t : ∀ a, SoT c (put Γ x (.ownE (some a) l)) y (.bm a)) (h : ∀ a, BdT c (put (put Γ x (.ownE (some a) l)) y (.bm a)) rest Γ₂ fl)
    (hs : swapsWith (.Attribute (.Name x px) "append" ap) (some (.Name y py)) pos.line c.env = pure false := by rfl) : BdT c Γ (.Assign [.Name y py] (.Attribute (.Name x px) "append" ap) pos :: rest) Γ₂ fl := by
  refine ⟨fun xt mu fz m s Q E S q => ?_⟩
  obtain ⟨w, hw, a, vs, n, rfl, had, hm, ha⟩ := S.lc x _ hx
  have S1 := S.told hx hw hm ha
  obtain ⟨tb, T, N⟩ := S1.N
  have fin : wpAny c.M c.A (getAttr (.ref a) "append" true) (fun v s₁ => wpAny c.M c.A (storeName c.env y v) (fun _ s₂ => wpAny c.M c.A (execs rest c.env) Q E s₂) E s₁) E s := by
    refine get_append S1.F N (List.mem_append_right _ (List.mem_append_left _ hm)) fun q' h' tk' F' N' l1 => ?_
    have S2 := S1.alloc T F' N' l1
    exact (t a).run xt mu _ m _ _ _ E S2 ⟨q', rfl, .head _⟩ fun mu3 m3 h3 k3 S3 => (h a).run xt mu3 _ m3 _ Q E S3 fun g m4 f4 mm4 h4 k4 s4 S4 e4 => q g m4 f4 mm4 h4 k4 (fun p hp => s4 p (.tail _ hp)) S4 e4
  refine wpAny_execs_cons (wpAny_Assign_Name (Attribute_name ?_) hs)
  have wk : c.env.scope.kind = .function := hk
  cases hw with
  | loc hx' hd e => exact wpAny_Name (wpAny_loadName_local wk hx' S.ns e fin) hd
  | cell hx' hd hc hm' ho => exact wpAny_Name (wpAny_loadName_cell wk hx' hc ⟨_, (S.get (.inr (.inl hm'))).1, ho⟩ fin) hd
theorem bound_appendS {w : World} {A : Around} {E : Value → Shared → Prop} {s : Shared} {q D : Addr} {its : List Value} {n : Nat} {v : Value} {Q : Value → Shared → Prop} (hq : s.heap.get? q = some (bmO "list.append" D)) (hD : s.heap.get? D = some (lstO its.toArray n)) (hsz : its.length ≤ 1000000)
    (h : ∀ h', Heap.SameBut D s.heap h' → h'.get? D = some (lstO (its ++ [v]).toArray (n + 1)) → Q .none { s with heap := h' }) : wpAny (model pw w) A (call (.ref q) [v]) Q E s := by
  refine wpAny_call (codeAny_of_tree ?_)
  show wpAny _ _ (callAny (.ref q) ⟨[v], []⟩) _ _ _
  simp only [callAny]
  refine wpAny_bind (wpAny_load hq ?_)
  show wpAny _ _ (checkBoundCall "list.append" ⟨[.ref D, v], []⟩ >>= fun _ => (again (.builtin "list.append" ⟨[.ref D, v], []⟩) : Sem Fin)) _ _ _
  refine wpAny_bind (go2 20 (List.replicate 3 (D, .old (listOf its.toArray n))) (tk := s.toks) (js := []) (r := ()) (by kernel_rfl) (reps_ok hD) (wpAny_pure ⟨plainId_quiet (by decide +kernel) _, ?_⟩))
  refine codeAny_builtin entry_list_append ?_
  show wpAny _ _ (updateSeq D (·.push v) >>= fun _ => ret .none) _ _ s
  have e2 : its.toArray.push v = (its ++ [v]).toArray := List.push_toArray its v
  refine wpAny_bind (wpAny_updateSeq hD rfl (wpAny_pure ?_) (by rw [List.size_toArray, sizeLine_eq]; lia) (by show (its.toArray.push v).size ≤ _; rw [e2, List.size_toArray, List.length_append, sizeLine_eq]; show its.length + 1 ≤ _; lia))
  refine h _ (Heap.SameBut.update ..) ?_
  rw [Heap.get?_update_self _ hD (by rw [mapSeq_push]; rfl), mapSeq_push, e2]
theorem StT.bapp {a : Addr} {d : El} (hk : c.cs.kind = .function) (hx : Γ x = some (.ownE (some a) l)) (hy : Γ y = some (.bm a)) (h : EvT c c.env Γ ex r) (hr : ∀ mu fz v, r.Is mu fz v → d.Is fz v) (hz : l.length ≤ 1000000)
    (h1 : plainE ex = true := by rfl)
    (hi : interactive c.env = false := by rfl) (hs : swapsWith (.Call (.Name y py) [ex] [] cp) Option.none pos.line c.env = pure false := by rfl) : StT c Γ (.Expr (.Call (.Name y py) [ex] [] cp) pos) (put Γ x (.ownE (some a) (l ++ [d]))) .next := by
  refine ⟨fun xt mu fz m s Q E S q => ?_⟩
  refine wpAny_Expr (Call_ ((EvT.cname hk hy).run xt mu fz m m s _ E S fun w f1 h1' k1 s1 S1 v1 => ?_) callN) hi hs
  obtain ⟨q', rfl, hq'⟩ := v1
  -- a bound method is kept by the machine
  refine callWith_of (first := []) (P := fun h => h.get? q' = some (bmO "list.append" a)) (by rw [star1 h1]; rfl) (fun h X => ⟨.machine, .inr (.inl rfl), (Looks.ld (part := Option.none) X).andThen .now⟩) ?_
  rw [star1 h1]
  refine Calls.evalArgs_plain ?_
  have z : ∀ {Q}, wpAny c.M c.A (spliced (backTo cp (starEach [ex] c.env))) Q E { s with heap := h1', toks := k1 } → wpAny c.M c.A (spliced (backTo cp ((false, eval ex c.env) :: starEach [] c.env))) Q E { s with heap := h1', toks := k1 } := fun z => by rw [star1 h1] at z; exact z
  refine z ?_
  refine args_cons (h.run xt mu f1 m m { s with heap := h1', toks := k1 } _ E S1 fun v f2 h2 k2 s2 S2 v2 => args_nil ?_) (star1 h1)
  obtain ⟨w2, hw, a', vs, n, rfl, had, hm, ha⟩ := S2.lc x _ hx
  cases had a rfl
  refine ⟨(S2.get (.inr (.inr (s2 _ hq')))).1, bound_appendS (s := { s with heap := h2, toks := k2 }) (S2.get (.inr (.inr (s2 _ hq')))).1 (S2.get (.inr (.inl hm))).1 (by rw [ha.length]; exact hz) fun h' hs' hg' => ?_⟩
  exact q _ _ f2 m h' k2 (fun p hp => s2 p (s1 p hp)) (S2.pushed hx hw (fun b h => (Option.some.inj h).symm) hm ha (hr _ _ _ v2) hs' hg') rfl
theorem BdT.obj (hf : EvT c c.env Γ f (.val (.type "object"))) (t : ∀ a, SoT c Γ y (.val (.ref a))) (h : ∀ a, BdT c (put Γ y (.val (.ref a))) rest Γ₂ fl)
    (he : eval (.Call f [] [] cp) c.env = (do callWith cp (← eval f c.env) [] (backTo cp (starEach [] c.env)) (backToKw cp (keywordEach [] c.env))) := by rfl)
    (hs : swapsWith (.Call f [] [] cp) (some (.Name y py)) pos.line c.env = pure false := by rfl) : BdT c Γ (.Assign [.Name y py] (.Call f [] [] cp) pos :: rest) Γ₂ fl := by
  refine ⟨fun xt mu fz m s Q E S q => ?_⟩
  refine wpAny_execs_cons (wpAny_Assign_Name (Call_ (hf.run xt mu fz m m s _ E S fun w f1 h1' k1 s1 S1 v1 => ?_) he) hs)
  cases v1
  obtain ⟨tb, T, N⟩ := S1.N
  refine callWith_type0 (new_object (s := { s with heap := h1', toks := k1 }) S1.F N fun q' h' tk' F' N' l1 => ?_)
  have S2 := S1.alloc T F' N' l1
  exact (t q').run xt mu _ m _ { s with heap := h', toks := tk' } _ E S2 rfl fun mu3 m3 h3 k3 S3 => (h q').run xt mu3 _ m3 _ Q E S3 fun g m4 f4 mm4 h4 k4 s4 S4 e4 => q g m4 f4 mm4 h4 k4 (fun p hp => s4 p (.tail _ (s1 p hp))) S4 e4
theorem MethT.translate {x : Str} : MethT (.d (.str x)) "translate" "str.translate" := MethT.ofS fun q => getm_translate q
theorem CallT.translate {a : Nat} (hmiss : ∀ {w : World}, missB (oK w 196) (a : Nat) = true) (ha : a < 128) : CallT d u (.builtin "str.translate") [.d (.str (S [a])), .val (.ref 196)] (.d (.str (S [a]))) := by
  constructor
  intro c env Γ xt mu fz m mm s Q E vs O S' hvs q
  obtain ⟨_, _, rfl, h1, h2⟩ := hvs.inv2
  cases h2
  obtain ⟨t, rfl⟩ := DatIn.strE h1
  obtain ⟨tb, T, N⟩ := S'.N
  exact translateX (A := c.A) rfl S'.F N O.X rfl k196 hmiss ha fun t' h' tk' F' N' => q _ fz h' tk' (fun _ h => h) (S'.move F' ⟨tb, T, N'⟩) (.str _ _)
theorem CallT.replaceN {x y z : Str} (e : (occurrences x y 0 x.length (x.length + 1)).isEmpty = true) : CallT d u (.builtin "str.replace") [.d (.str x), .d (.str y), .d (.str z)] (.d (.str x)) := by
  constructor
  intro c env Γ xt mu fz m mm s Q E vs O S' hvs q
  obtain ⟨_, _, _, rfl, h1, h2, h3⟩ := hvs.inv3
  obtain ⟨t, rfl⟩ := DatIn.strE h1
  obtain ⟨t2, rfl⟩ := DatIn.strE h2
  obtain ⟨t3, rfl⟩ := DatIn.strE h3
  exact replace_none e (q _ fz s.heap s.toks (fun _ h => h) S' (.str _ _))
theorem StT.pairS {d1 d2 : Dat} {tp : Pos} (h : EvT c c.env Γ ex (.d (.tuple [d1, d2]))) (t2 : SoT c Γ y (.d d2)) (t1 : SoT c (put Γ y (.d d2)) x (.d d1))
    (hs : swapsWithSole [.Tuple [.Name x px, .Name y py] k tp] ex pos.line c.env = pure false := by rfl) (hw : swappedStores [.Tuple [.Name x px, .Name y py] k tp] ex c.env = pure (some [x, y]) := by rfl) :
    StT c Γ (.Assign [.Tuple [.Name x px, .Name y py] k tp] ex pos) (put (put Γ y (.d d2)) x (.d d1)) .next := by
  refine ⟨fun xt mu fz m s Q E S q => ?_⟩
  refine Assign_Tuple_swapped (h.run xt mu fz m m s _ E S fun v f1 h1 k1 s1 S1 v1 => ?_) hs hw
  obtain ⟨a, w1, w2, n, rfl, hm, a1, a2⟩ := DatIn.tup2E v1
  obtain ⟨tb, T, N⟩ := S1.N
  refine unpackItems_tuple (s := { s with heap := h1, toks := k1 }) (items := #[w1, w2]) rfl ⟨_, (S1.get (.inr (.inr hm))).1, rfl, _, rfl⟩ fun h' he => ?_
  have S2 := S1.move (S1.F.extBut he (Nat.le_refl _)) ⟨tb, T, fun p hp => ⟨he p.1 p.2 (Nat.ne_of_lt (Heap.lt_size (N p hp).1)) (N p hp).1, (N p hp).2⟩⟩
  refine assignInOrder_cons (wpAny_bindName (t2.run xt mu f1 m w2 { s with heap := h', toks := k1 } _ _ S2 a2 fun mu3 m3 h3 k3 S3 => ?_))
  refine assignInOrder_cons (wpAny_bindName (t1.run xt mu3 f1 m3 w1 { s with heap := h3, toks := k3 } _ _ S3 a1 fun mu4 m4 h4 k4 S4 => ?_))
  exact assignInOrder_nil (q _ mu4 f1 m4 h4 k4 s1 S4 rfl)
theorem EvT.lsD {ds : List Dat} (h : EvT c env Γ ex (.lsE (ds.map .d))) : EvT c env Γ ex (.d (.list ds)) := ⟨fun xt mu fz m mm s Q E S q => h.run xt mu fz m mm s Q E S fun v f1 h1 k1 s1 S1 v1 => by
  obtain ⟨a, vs, n, rfl, hm, ha⟩ := v1
  exact q _ f1 h1 k1 s1 S1 (.list hm ha.dats)⟩
end
end Mine
end
section
open PySem PySem.W PySem.W.X PyProof.Rows PyProof.Rows.LCg PySem.Builtin.Str PySem.Sre
set_option maxRecDepth 100000
set_option maxHeartbeats 4000000
set_option Elab.async false
namespace Mine
theorem item_at {l : List Nat} {n a : Nat} (h : l[n]? = some a) : Txt.item (S l) (n : Int) = S [a] := by
  obtain ⟨hn, e⟩ := List.getElem?_eq_some_iff.mp h
  have e : (Txt.charAt (S l) (n : Int)).getD 0 = a := by
    unfold Txt.charAt
    rw [show seqIndex? (n : Int) (S l).length = some n from by rw [S_len]; unfold seqIndex?; simp <;> lia]
    simp [h]
  show (⟨#[(Txt.charAt (S l) (n : Int)).getD 0]⟩ : Str) = _
  rw [e]
theorem EvT.sgn {c : Fc} {env : Env} {Γ : Gm} {value ix : Expr} {pos : Pos} {l : List Nat} {i : Int} {a : Nat} (n : Nat) (hv : EvT c env Γ value (.d (.str (S l)))) (hi : EvT c env Γ ix (.d (.int i))) (e : i = (n : Int)) (h : l[n]? = some a) (hz : l.length ≤ 1000)
    (hs : ∀ t u, subscripted ix false (.str (S l) t) (.int i u) = operate [.str (S l) t, .int i u] (getItem (.str (S l) t) (.int i u)) := by intros; with_unfolding_all rfl) : EvT c env Γ (.Subscript value ix pos) (.d (.str (S [a]))) := by
  subst e
  have hn : n < l.length := (List.getElem?_eq_some_iff.mp h).1
  exact EvT.as (EvT.itemS hv hi (by unfold fitsSsize; simp <;> lia) (by lia) (by rw [S_len]; lia) hs) (congrArg (fun x => Rv.d (.str x)) (item_at h))
noncomputable def escSigns : List Nat := [97, 98, 49, 50]
theorem miss_esc {w : World} : ∀ c ∈ escSigns, missB (oK w 196) (c : Nat) = true := by
  intro c hc
  simp only [escSigns, List.mem_cons, List.not_mem_nil, or_false] at hc
  rcases hc with rfl | rfl | rfl | rfl
  · exact m97
  · exact m98
  · exact m49
  · exact m50
theorem lt_esc : ∀ c ∈ escSigns, c < 128 := by decide
theorem esc_T {a : Nat} (ha : a ∈ escSigns) : CallT 1 67 (.ref 206) [.d (.str (S [a]))] (.d (.str (S [a]))) := by
  have _key : (fun (_ : OpenLaw) (_ : Params → Frag) => True) PySem.Challenge.rw_kq0058_01 hd.heap_1 := by k_fill; trivial
  clear _key
  refine' CallT.def (d := 0) (u := 64) [Str.ofString "pattern"] (fun P => ?ho) (fun P => ?hcd) (fun s => len_one fun a => BindsTo.of_eq ?hb) ?hok ?hfree ?hr ?h ?hco ?hgen
  case ho => k_is
  case hcd => k_is
  case hok => rfl
  case hfree => rfl
  case hr => rfl
  case hco => rfl
  case hgen => rfl
  case hb => rfl
  case h =>
    intro k O
    exact BdT.ret (StT.ifT (TsT.plain (EvT.callB O (EvT.bltn O (by k_is) (by kernel_rfl)) (EvTs.cons (EvT.cname O.hk rfl) (EvTs.cons (EvT.bltn O (by k_is) (by kernel_rfl)) EvTs.nil)) CallT.isStr) rfl (Nat.zero_le _)) (BdT.retN (EvT.meth O (EvT.cname O.hk rfl) MethT.translate (EvTs.cons (EvT.glob O (by k_is)) EvTs.nil) (CallT.translate (fun {w} => miss_esc a ha) (lt_esc a ha)))))
noncomputable abbrev Pcs := List (Option (List Nat))
noncomputable def pats : List (List Nat × Pcs) := [([97, 63], [some [97], some [46]]), ([42, 49], [none, some [49]]), ([91, 33, 97, 93, 42], [some [91, 94, 97, 93], none]), ([98, 50], [some [98], some [50]]), ([42, 91, 49, 50, 93], [none, some [91, 49, 50, 93]])]
noncomputable def elP (eS : El) : Option (List Nat) → El
  | none => eS
  | some l => .d (.str (S l))
noncomputable def trTab : List (List Nat × Nat × Nat × Pcs) := [([97, 63], 2, 0, []), ([97, 63], 1, 1, [some [97]]), ([97, 63], 0, 2, [some [97], some [46]]), ([42, 49], 2, 0, []), ([42, 49], 1, 1, [none]), ([42, 49], 0, 2, [none, some [49]]), ([91, 33, 97, 93, 42], 2, 0, []), ([91, 33, 97, 93, 42], 1, 4, [some [91, 94, 97, 93]]), ([91, 33, 97, 93, 42], 0, 5, [some [91, 94, 97, 93], none]), ([98, 50], 2, 0, []), ([98, 50], 1, 1, [some [98]]), ([98, 50], 0, 2, [some [98], some [50]]), ([42, 91, 49, 50, 93], 2, 0, []), ([42, 91, 49, 50, 93], 1, 1, [none]), ([42, 91, 49, 50, 93], 0, 5, [none, some [91, 49, 50, 93]])]
theorem tw_a : Hits 500 (Sre.forSearch cTW1 (S [33, 97]).cps 1 0 (S [33, 97]).cps.size false) Failed := runs_fail 500 (by kernel_rfl)
theorem tw_12 : Hits 500 (Sre.forSearch cTW1 (S [49, 50]).cps 1 0 (S [49, 50]).cps.size false) Failed := runs_fail 500 (by kernel_rfl)
noncomputable def tG (pat : List Nat) (rS : Rv) (eS : El) (a : Addr) (st : Nat × Pcs) : Gm := bd [(Str.ofString "i", .d (.int st.1)), (Str.ofString "n", .d (.int pat.length)), (Str.ofString "res", .ownE (some a) (st.2.map (elP eS))), (Str.ofString "add", .bm a), (Str.ofString "pat", .d (.str (S pat))), (Str.ofString "STAR", rS), (Str.ofString "QUESTION_MARK", .d (.str (S [46])))] noG
theorem tr_T {pat : List Nat} {ps : Pcs} (hp : (pat, ps) ∈ pats) {rS : Rv} {eS : El} (hS : Star rS eS) : CallT 2 70 (.ref 213) [.d (.str (S pat)), rS, .d (.str (S [46]))] (.lsE (ps.map (elP eS))) := by
  have _key : (fun (_ : OpenLaw) (_ : Params → Frag) => True) PySem.Challenge.rw_kq0058_01 hd.heap_1 := by k_fill; trivial
  clear _key
  refine' CallT.def (d := 1) (u := 67) [Str.ofString "pat", Str.ofString "STAR", Str.ofString "QUESTION_MARK"] (fun P => ?ho) (fun P => ?hcd) (fun s => len_three fun a b c => BindsTo.of_eq ?hb) ?hok ?hfree ?hr ?h ?hco ?hgen
  case ho => k_is
  case hcd => k_is
  case hok => rfl
  case hfree => exact List.all_eq_true.mpr (all_cons rfl (all_cons hS.free (all_one rfl)))
  case hr => rfl
  case hco => rfl
  case hgen => rfl
  case hb => rfl
  case h =>
    intro k O
    have hu := (O.le (Nat.le_refl _) (by decide : 64 ≤ 67)).un
    have hlen : pat.length ≤ 1000 := (show ∀ p ∈ pats, p.1.length ≤ 1000 by decide) _ hp
    have h2 : ∀ {i : Nat} {l : Pcs}, (pat, 0, i, l) ∈ trTab → i = pat.length ∧ l = ps := fun {i l} h => (show ∀ p ∈ pats, ∀ q ∈ trTab, q.1 = p.1 → q.2.1 = 0 → q.2.2.1 = p.1.length ∧ q.2.2.2 = p.2 by decide) _ hp _ h rfl rfl
    have h0 : (pat, 2, 0, []) ∈ trTab := (show ∀ p ∈ pats, (p.1, 2, 0, []) ∈ trTab by decide) _ hp
    have h3 : ∀ {m i : Nat} {l : Pcs}, (pat, m, i, l) ∈ trTab → i = pat.length → m = 0 := fun {m i l} h => (show ∀ q ∈ trTab, q.2.2.1 = q.1.length → q.2.1 = 0 by decide) _ h
    refine BdT.cons (StT.newL O.hk) (BdT.bound O.hk rfl (fun a => SoT.loc O.hk) fun a => ?_)
    refine BdT.cons (StT.pairS (EvT.tup (ds := [.int 0, .int pat.length]) (EvTs.cons EvT.cint (EvTs.cons (EvT.as (EvT.callB O (EvT.bltn O (by k_is) (by kernel_rfl)) (EvTs.cons (EvT.cname O.hk rfl) EvTs.nil) (CallT.lenS (by rw [S_len]; lia))) (by rw [S_len])) EvTs.nil)) (by show 2 ≤ 1000; decide)) (SoT.loc O.hk) (SoT.loc O.hk)) ?_
    refine BdT.whl (n := 2) (st := (0, [])) (fun st => st.1 = pat.length) (tG pat rS eS a) (fun m st => (pat, m, st.1, st.2) ∈ trTab) h0 (fun z r => bd_sub (L := [(Str.ofString "i", _), (Str.ofString "n", _), (Str.ofString "add", _), (Str.ofString "res", _), (Str.ofString "res", _), (Str.ofString "pat", _), (Str.ofString "STAR", _), (Str.ofString "QUESTION_MARK", _)]) (Γ0 := noG) (fun _ _ => rfl) (all_cons rfl (all_cons rfl (all_cons rfl (all_cons rfl (all_cons rfl (all_cons rfl (all_one rfl)))))))) (fun m st hi => ?turn) (fun m st hi hs => ?aft)
    case aft =>
      obtain ⟨i, l⟩ := st
      have hs : i = pat.length := hs
      cases h3 hi hs
      obtain ⟨rfl, rfl⟩ := h2 hi
      refine BdT.cons (StT.asrt (TsW.cmp hu (EvT.cname O.hk rfl) (EvT.cname O.hk rfl) (CmpT.eqI.as (b' := true) (by simp))).t) (ExT.frzE (y := Str.ofString "res") rfl (BdT.retN (EvT.cname O.hk rfl)))
    case turn =>
      obtain ⟨i, l⟩ := st
      have hi : (pat, m, i, l) ∈ trTab := hi
      clear h0 h2 h3 hp hlen
      simp only [trTab, List.mem_cons, List.not_mem_nil, or_false, Prod.mk.injEq] at hi
      rcases hi with ⟨rfl, rfl, rfl, rfl⟩ | ⟨rfl, rfl, rfl, rfl⟩ | ⟨rfl, rfl, rfl, rfl⟩ | ⟨rfl, rfl, rfl, rfl⟩ | ⟨rfl, rfl, rfl, rfl⟩ | ⟨rfl, rfl, rfl, rfl⟩ | ⟨rfl, rfl, rfl, rfl⟩ | ⟨rfl, rfl, rfl, rfl⟩ | ⟨rfl, rfl, rfl, rfl⟩ | ⟨rfl, rfl, rfl, rfl⟩ | ⟨rfl, rfl, rfl, rfl⟩ | ⟨rfl, rfl, rfl, rfl⟩ | ⟨rfl, rfl, rfl, rfl⟩ | ⟨rfl, rfl, rfl, rfl⟩ | ⟨rfl, rfl, rfl, rfl⟩
      · exact .inr ⟨1, (1, [some [97]]), .next, rfl, by decide, (TsW.cmp hu (EvT.cname O.hk rfl) (EvT.cname O.hk rfl) (CmpT.ltI.as (b' := true) (by rfl))).t, ExT.post (BdT.cons (StT.asg (EvT.sgn 0 (EvT.cname O.hk rfl) (EvT.cname O.hk rfl) rfl (a := 97) rfl (by decide)) (SoT.loc O.hk)) (BdT.cons (StT.asg (EvT.bin (EvT.cname O.hk rfl) EvT.cint BinT.add) (SoT.loc O.hk)) (BdT.cons (StT.ifF (TsW.cmp hu (EvT.cname O.hk rfl) EvT.cstr (CmpT.eqS.as (b' := false) (by decide +kernel))).t (BdT.cons (StT.ifF (TsW.cmp hu (EvT.cname O.hk rfl) EvT.cstr (CmpT.eqS.as (b' := false) (by decide +kernel))).t (BdT.cons (StT.ifF (TsW.cmp hu (EvT.cname O.hk rfl) EvT.cstr (CmpT.eqS.as (b' := false) (by decide +kernel))).t (BdT.cons (StT.bapp (x := Str.ofString "res") (d := .d (.str (S [97]))) O.hk rfl rfl (EvT.callK O (EvT.glob O (by k_is)) (EvTs.cons (EvT.cname O.hk rfl) EvTs.nil) (esc_T (by decide)) (by intro P; k_is)) (fun _ _ _ h => h) (Nat.le_of_ble_eq_true rfl)) BdT.nil)) BdT.nil)) BdT.nil)) BdT.nil))) fun z r => bd_sub (L := [(Str.ofString "res", _), (Str.ofString "i", _), (Str.ofString "c", _), (Str.ofString "i", _), (Str.ofString "n", _), (Str.ofString "res", _), (Str.ofString "add", _), (Str.ofString "pat", _), (Str.ofString "STAR", _), (Str.ofString "QUESTION_MARK", _)]) (Γ0 := noG) (fun _ _ => rfl) (all_cons rfl (all_cons rfl (all_cons rfl (all_cons rfl (all_cons rfl (all_cons rfl (all_one rfl))))))), .inl rfl⟩
      · exact .inr ⟨0, (2, [some [97], some [46]]), .next, rfl, by decide, (TsW.cmp hu (EvT.cname O.hk rfl) (EvT.cname O.hk rfl) (CmpT.ltI.as (b' := true) (by rfl))).t, ExT.post (BdT.cons (StT.asg (EvT.sgn 1 (EvT.cname O.hk rfl) (EvT.cname O.hk rfl) rfl (a := 63) rfl (by decide)) (SoT.loc O.hk)) (BdT.cons (StT.asg (EvT.bin (EvT.cname O.hk rfl) EvT.cint BinT.add) (SoT.loc O.hk)) (BdT.cons (StT.ifF (TsW.cmp hu (EvT.cname O.hk rfl) EvT.cstr (CmpT.eqS.as (b' := false) (by decide +kernel))).t (BdT.cons (StT.ifT (TsW.cmp hu (EvT.cname O.hk rfl) EvT.cstr (CmpT.eqS.as (b' := true) (by decide +kernel))).t (BdT.cons (StT.bapp (x := Str.ofString "res") (d := .d (.str (S [46]))) O.hk rfl rfl (EvT.cname O.hk rfl) (fun _ _ _ h => h) (Nat.le_of_ble_eq_true rfl)) BdT.nil)) BdT.nil)) BdT.nil))) fun z r => bd_sub (L := [(Str.ofString "res", _), (Str.ofString "i", _), (Str.ofString "c", _), (Str.ofString "i", _), (Str.ofString "n", _), (Str.ofString "res", _), (Str.ofString "add", _), (Str.ofString "pat", _), (Str.ofString "STAR", _), (Str.ofString "QUESTION_MARK", _)]) (Γ0 := noG) (fun _ _ => rfl) (all_cons rfl (all_cons rfl (all_cons rfl (all_cons rfl (all_cons rfl (all_cons rfl (all_one rfl))))))), .inl rfl⟩
      · exact .inl ⟨rfl, (TsW.cmp hu (EvT.cname O.hk rfl) (EvT.cname O.hk rfl) (CmpT.ltI.as (b' := false) (by rfl))).t⟩
      · exact .inr ⟨1, (1, [none]), .next, rfl, by decide, (TsW.cmp hu (EvT.cname O.hk rfl) (EvT.cname O.hk rfl) (CmpT.ltI.as (b' := true) (by rfl))).t, ExT.post (BdT.cons (StT.asg (EvT.sgn 0 (EvT.cname O.hk rfl) (EvT.cname O.hk rfl) rfl (a := 42) rfl (by decide)) (SoT.loc O.hk)) (BdT.cons (StT.asg (EvT.bin (EvT.cname O.hk rfl) EvT.cint BinT.add) (SoT.loc O.hk)) (BdT.cons (StT.ifT (TsW.cmp hu (EvT.cname O.hk rfl) EvT.cstr (CmpT.eqS.as (b' := true) (by decide +kernel))).t (BdT.cons (StT.ifT (TsW.orT (TsW.not (b := false) (TsT.plain (EvT.cname O.hk rfl) rfl (Nat.le_of_ble_eq_true rfl))).t).t (BdT.cons (StT.bapp (x := Str.ofString "res") (d := eS) O.hk rfl rfl (EvT.cname O.hk rfl) hS.add (Nat.le_of_ble_eq_true rfl)) BdT.nil)) BdT.nil)) BdT.nil))) fun z r => bd_sub (L := [(Str.ofString "res", _), (Str.ofString "i", _), (Str.ofString "c", _), (Str.ofString "i", _), (Str.ofString "n", _), (Str.ofString "res", _), (Str.ofString "add", _), (Str.ofString "pat", _), (Str.ofString "STAR", _), (Str.ofString "QUESTION_MARK", _)]) (Γ0 := noG) (fun _ _ => rfl) (all_cons rfl (all_cons rfl (all_cons rfl (all_cons rfl (all_cons rfl (all_cons rfl (all_one rfl))))))), .inl rfl⟩
      · exact .inr ⟨0, (2, [none, some [49]]), .next, rfl, by decide, (TsW.cmp hu (EvT.cname O.hk rfl) (EvT.cname O.hk rfl) (CmpT.ltI.as (b' := true) (by rfl))).t, ExT.post (BdT.cons (StT.asg (EvT.sgn 1 (EvT.cname O.hk rfl) (EvT.cname O.hk rfl) rfl (a := 49) rfl (by decide)) (SoT.loc O.hk)) (BdT.cons (StT.asg (EvT.bin (EvT.cname O.hk rfl) EvT.cint BinT.add) (SoT.loc O.hk)) (BdT.cons (StT.ifF (TsW.cmp hu (EvT.cname O.hk rfl) EvT.cstr (CmpT.eqS.as (b' := false) (by decide +kernel))).t (BdT.cons (StT.ifF (TsW.cmp hu (EvT.cname O.hk rfl) EvT.cstr (CmpT.eqS.as (b' := false) (by decide +kernel))).t (BdT.cons (StT.ifF (TsW.cmp hu (EvT.cname O.hk rfl) EvT.cstr (CmpT.eqS.as (b' := false) (by decide +kernel))).t (BdT.cons (StT.bapp (x := Str.ofString "res") (d := .d (.str (S [49]))) O.hk rfl rfl (EvT.callK O (EvT.glob O (by k_is)) (EvTs.cons (EvT.cname O.hk rfl) EvTs.nil) (esc_T (by decide)) (by intro P; k_is)) (fun _ _ _ h => h) (Nat.le_of_ble_eq_true rfl)) BdT.nil)) BdT.nil)) BdT.nil)) BdT.nil))) fun z r => bd_sub (L := [(Str.ofString "res", _), (Str.ofString "i", _), (Str.ofString "c", _), (Str.ofString "i", _), (Str.ofString "n", _), (Str.ofString "res", _), (Str.ofString "add", _), (Str.ofString "pat", _), (Str.ofString "STAR", _), (Str.ofString "QUESTION_MARK", _)]) (Γ0 := noG) (fun _ _ => rfl) (all_cons rfl (all_cons rfl (all_cons rfl (all_cons rfl (all_cons rfl (all_cons rfl (all_one rfl))))))), .inl rfl⟩
      · exact .inl ⟨rfl, (TsW.cmp hu (EvT.cname O.hk rfl) (EvT.cname O.hk rfl) (CmpT.ltI.as (b' := false) (by rfl))).t⟩
      · exact .inr ⟨1, (4, [some [91, 94, 97, 93]]), .next, rfl, by decide, (TsW.cmp hu (EvT.cname O.hk rfl) (EvT.cname O.hk rfl) (CmpT.ltI.as (b' := true) (by rfl))).t, ExT.post (BdT.cons (StT.asg (EvT.sgn 0 (EvT.cname O.hk rfl) (EvT.cname O.hk rfl) rfl (a := 91) rfl (by decide)) (SoT.loc O.hk)) (BdT.cons (StT.asg (EvT.bin (EvT.cname O.hk rfl) EvT.cint BinT.add) (SoT.loc O.hk)) (BdT.cons (StT.ifF (TsW.cmp hu (EvT.cname O.hk rfl) EvT.cstr (CmpT.eqS.as (b' := false) (by decide +kernel))).t (BdT.cons (StT.ifF (TsW.cmp hu (EvT.cname O.hk rfl) EvT.cstr (CmpT.eqS.as (b' := false) (by decide +kernel))).t (BdT.cons (StT.ifT (TsW.cmp hu (EvT.cname O.hk rfl) EvT.cstr (CmpT.eqS.as (b' := true) (by decide +kernel))).t (BdT.cons (StT.asg (EvT.cname O.hk rfl) (SoT.loc O.hk)) (BdT.cons (StT.ifT (TsW.andT (TsW.cmp hu (EvT.cname O.hk rfl) (EvT.cname O.hk rfl) (CmpT.ltI.as (b' := true) (by rfl))).t (TsW.andT (TsW.cmp hu (EvT.sgn 1 (EvT.cname O.hk rfl) (EvT.cname O.hk rfl) rfl (a := 33) rfl (by decide)) EvT.cstr (CmpT.eqS.as (b' := true) (by decide +kernel))).t TsW.andN)).t (BdT.cons (StT.asg (EvT.bin (EvT.cname O.hk rfl) EvT.cint BinT.add) (SoT.loc O.hk)) BdT.nil)) (BdT.cons (StT.ifF (TsW.andT (TsW.cmp hu (EvT.cname O.hk rfl) (EvT.cname O.hk rfl) (CmpT.ltI.as (b' := true) (by rfl))).t (TsW.andF (TsW.cmp hu (EvT.sgn 2 (EvT.cname O.hk rfl) (EvT.cname O.hk rfl) rfl (a := 97) rfl (by decide)) EvT.cstr (CmpT.eqS.as (b' := false) (by decide +kernel))).t)).t BdT.nil) (BdT.cons (StT.whl (WhT.step (TsW.andT (TsW.cmp hu (EvT.cname O.hk rfl) (EvT.cname O.hk rfl) (CmpT.ltI.as (b' := true) (by rfl))).t (TsW.andT (TsW.cmp hu (EvT.sgn 2 (EvT.cname O.hk rfl) (EvT.cname O.hk rfl) rfl (a := 97) rfl (by decide)) EvT.cstr (CmpT.neS.as (b' := true) (by decide +kernel))).t TsW.andN)).t (BdT.cons (StT.asg (EvT.bin (EvT.cname O.hk rfl) EvT.cint BinT.add) (SoT.loc O.hk)) BdT.nil) (.inl rfl) (WhT.done (n := 0) (TsW.andT (TsW.cmp hu (EvT.cname O.hk rfl) (EvT.cname O.hk rfl) (CmpT.ltI.as (b' := true) (by rfl))).t (TsW.andF (TsW.cmp hu (EvT.sgn 3 (EvT.cname O.hk rfl) (EvT.cname O.hk rfl) rfl (a := 93) rfl (by decide)) EvT.cstr (CmpT.neS.as (b' := false) (by decide +kernel))).t)).t))) (BdT.cons (StT.ifF (TsW.cmp hu (EvT.cname O.hk rfl) (EvT.cname O.hk rfl) (CmpT.geI.as (b' := false) (by rfl))).t (BdT.cons (StT.asg (EvT.as (EvT.sliceSS (EvT.cname O.hk rfl) (EvT.cname O.hk rfl) (EvT.cname O.hk rfl) (by decide)) (congrArg (fun x => Rv.d (.str x)) (show _ = S [33, 97] by decide +kernel))) (SoT.loc O.hk)) (BdT.cons (StT.ifT (TsW.cmp hu EvT.cstr (EvT.cname O.hk rfl) (CmpT.ninS.as (b' := true) (by decide +kernel))).t (BdT.cons (StT.asg (EvT.meth O (EvT.cname O.hk rfl) MethT.replace (EvTs.cons EvT.cstr (EvTs.cons EvT.cstr EvTs.nil)) (CallT.replaceN (by decide +kernel))) (SoT.loc O.hk)) BdT.nil)) (BdT.cons (StT.asg (EvT.subLam O (.head _) (code212 O.X) rfl rfl rfl isPat187 (fun F N hf q => sub187 F N O.X hf (by decide) (by decide) tw_a (by decide) q) (EvT.glob O (by k_is)) (EvT.cname O.hk rfl)) (SoT.loc O.hk)) (BdT.cons (StT.asg (EvT.bin (EvT.cname O.hk rfl) EvT.cint BinT.add) (SoT.loc O.hk)) (BdT.cons (StT.ifF (TsW.not (b := true) (TsT.plain (EvT.cname O.hk rfl) (by decide +kernel) (by decide))).t (BdT.cons (StT.ifF (TsW.cmp hu (EvT.cname O.hk rfl) EvT.cstr (CmpT.eqS.as (b' := false) (by decide +kernel))).t (BdT.cons (StT.ifT (TsW.cmp hu (EvT.hdS O.hk rfl) EvT.cstr (CmpT.eqS.as (b' := true) (by decide +kernel))).t (BdT.cons (StT.asg (EvT.bin (EvT.cS [94]) (EvT.tlS O.hk rfl (by decide)) (BinT.catS (by decide))) (SoT.loc O.hk)) BdT.nil)) (BdT.cons (StT.bapp (x := Str.ofString "res") (d := .d (.str (S [91, 94, 97, 93]))) O.hk rfl rfl (EvT.fstr (JpT.cons (EvT.cS [91]) (by decide) (JpT.cons (EvT.fv (EvT.cname O.hk rfl) (by decide)) (by decide) (JpT.cons (EvT.cS [93]) (by decide) (JpT.nil (by decide)))))) (fun _ _ _ h => h) (Nat.le_of_ble_eq_true rfl)) BdT.nil))) BdT.nil)) BdT.nil)))))) BdT.nil)))))) BdT.nil)) BdT.nil)) BdT.nil))) fun z r => bd_sub (L := [(Str.ofString "res", _), (Str.ofString "stuff", _), (Str.ofString "i", _), (Str.ofString "stuff", _), (Str.ofString "stuff", _), (Str.ofString "stuff", _), (Str.ofString "j", _), (Str.ofString "j", _), (Str.ofString "j", _), (Str.ofString "i", _), (Str.ofString "c", _), (Str.ofString "i", _), (Str.ofString "n", _), (Str.ofString "res", _), (Str.ofString "add", _), (Str.ofString "pat", _), (Str.ofString "STAR", _), (Str.ofString "QUESTION_MARK", _)]) (Γ0 := noG) (fun _ _ => rfl) (all_cons rfl (all_cons rfl (all_cons rfl (all_cons rfl (all_cons rfl (all_cons rfl (all_one rfl))))))), .inl rfl⟩
      · exact .inr ⟨0, (5, [some [91, 94, 97, 93], none]), .next, rfl, by decide, (TsW.cmp hu (EvT.cname O.hk rfl) (EvT.cname O.hk rfl) (CmpT.ltI.as (b' := true) (by rfl))).t, ExT.post (BdT.cons (StT.asg (EvT.sgn 4 (EvT.cname O.hk rfl) (EvT.cname O.hk rfl) rfl (a := 42) rfl (by decide)) (SoT.loc O.hk)) (BdT.cons (StT.asg (EvT.bin (EvT.cname O.hk rfl) EvT.cint BinT.add) (SoT.loc O.hk)) (BdT.cons (StT.ifT (TsW.cmp hu (EvT.cname O.hk rfl) EvT.cstr (CmpT.eqS.as (b' := true) (by decide +kernel))).t (BdT.cons (StT.ifT (TsW.orF (TsW.not (b := true) (TsT.plain (EvT.cname O.hk rfl) rfl (Nat.le_of_ble_eq_true rfl))).t (TsW.orT (TsW.cmp hu (EvT.itemM (l := []) O.hk rfl (by decide)) (EvT.cname O.hk rfl) (hS.ne _)).t)).t (BdT.cons (StT.bapp (x := Str.ofString "res") (d := eS) O.hk rfl rfl (EvT.cname O.hk rfl) hS.add (Nat.le_of_ble_eq_true rfl)) BdT.nil)) BdT.nil)) BdT.nil))) fun z r => bd_sub (L := [(Str.ofString "res", _), (Str.ofString "i", _), (Str.ofString "c", _), (Str.ofString "i", _), (Str.ofString "n", _), (Str.ofString "res", _), (Str.ofString "add", _), (Str.ofString "pat", _), (Str.ofString "STAR", _), (Str.ofString "QUESTION_MARK", _)]) (Γ0 := noG) (fun _ _ => rfl) (all_cons rfl (all_cons rfl (all_cons rfl (all_cons rfl (all_cons rfl (all_cons rfl (all_one rfl))))))), .inl rfl⟩
      · exact .inl ⟨rfl, (TsW.cmp hu (EvT.cname O.hk rfl) (EvT.cname O.hk rfl) (CmpT.ltI.as (b' := false) (by rfl))).t⟩
      · exact .inr ⟨1, (1, [some [98]]), .next, rfl, by decide, (TsW.cmp hu (EvT.cname O.hk rfl) (EvT.cname O.hk rfl) (CmpT.ltI.as (b' := true) (by rfl))).t, ExT.post (BdT.cons (StT.asg (EvT.sgn 0 (EvT.cname O.hk rfl) (EvT.cname O.hk rfl) rfl (a := 98) rfl (by decide)) (SoT.loc O.hk)) (BdT.cons (StT.asg (EvT.bin (EvT.cname O.hk rfl) EvT.cint BinT.add) (SoT.loc O.hk)) (BdT.cons (StT.ifF (TsW.cmp hu (EvT.cname O.hk rfl) EvT.cstr (CmpT.eqS.as (b' := false) (by decide +kernel))).t (BdT.cons (StT.ifF (TsW.cmp hu (EvT.cname O.hk rfl) EvT.cstr (CmpT.eqS.as (b' := false) (by decide +kernel))).t (BdT.cons (StT.ifF (TsW.cmp hu (EvT.cname O.hk rfl) EvT.cstr (CmpT.eqS.as (b' := false) (by decide +kernel))).t (BdT.cons (StT.bapp (x := Str.ofString "res") (d := .d (.str (S [98]))) O.hk rfl rfl (EvT.callK O (EvT.glob O (by k_is)) (EvTs.cons (EvT.cname O.hk rfl) EvTs.nil) (esc_T (by decide)) (by intro P; k_is)) (fun _ _ _ h => h) (Nat.le_of_ble_eq_true rfl)) BdT.nil)) BdT.nil)) BdT.nil)) BdT.nil))) fun z r => bd_sub (L := [(Str.ofString "res", _), (Str.ofString "i", _), (Str.ofString "c", _), (Str.ofString "i", _), (Str.ofString "n", _), (Str.ofString "res", _), (Str.ofString "add", _), (Str.ofString "pat", _), (Str.ofString "STAR", _), (Str.ofString "QUESTION_MARK", _)]) (Γ0 := noG) (fun _ _ => rfl) (all_cons rfl (all_cons rfl (all_cons rfl (all_cons rfl (all_cons rfl (all_cons rfl (all_one rfl))))))), .inl rfl⟩
      · exact .inr ⟨0, (2, [some [98], some [50]]), .next, rfl, by decide, (TsW.cmp hu (EvT.cname O.hk rfl) (EvT.cname O.hk rfl) (CmpT.ltI.as (b' := true) (by rfl))).t, ExT.post (BdT.cons (StT.asg (EvT.sgn 1 (EvT.cname O.hk rfl) (EvT.cname O.hk rfl) rfl (a := 50) rfl (by decide)) (SoT.loc O.hk)) (BdT.cons (StT.asg (EvT.bin (EvT.cname O.hk rfl) EvT.cint BinT.add) (SoT.loc O.hk)) (BdT.cons (StT.ifF (TsW.cmp hu (EvT.cname O.hk rfl) EvT.cstr (CmpT.eqS.as (b' := false) (by decide +kernel))).t (BdT.cons (StT.ifF (TsW.cmp hu (EvT.cname O.hk rfl) EvT.cstr (CmpT.eqS.as (b' := false) (by decide +kernel))).t (BdT.cons (StT.ifF (TsW.cmp hu (EvT.cname O.hk rfl) EvT.cstr (CmpT.eqS.as (b' := false) (by decide +kernel))).t (BdT.cons (StT.bapp (x := Str.ofString "res") (d := .d (.str (S [50]))) O.hk rfl rfl (EvT.callK O (EvT.glob O (by k_is)) (EvTs.cons (EvT.cname O.hk rfl) EvTs.nil) (esc_T (by decide)) (by intro P; k_is)) (fun _ _ _ h => h) (Nat.le_of_ble_eq_true rfl)) BdT.nil)) BdT.nil)) BdT.nil)) BdT.nil))) fun z r => bd_sub (L := [(Str.ofString "res", _), (Str.ofString "i", _), (Str.ofString "c", _), (Str.ofString "i", _), (Str.ofString "n", _), (Str.ofString "res", _), (Str.ofString "add", _), (Str.ofString "pat", _), (Str.ofString "STAR", _), (Str.ofString "QUESTION_MARK", _)]) (Γ0 := noG) (fun _ _ => rfl) (all_cons rfl (all_cons rfl (all_cons rfl (all_cons rfl (all_cons rfl (all_cons rfl (all_one rfl))))))), .inl rfl⟩
      · exact .inl ⟨rfl, (TsW.cmp hu (EvT.cname O.hk rfl) (EvT.cname O.hk rfl) (CmpT.ltI.as (b' := false) (by rfl))).t⟩
      · exact .inr ⟨1, (1, [none]), .next, rfl, by decide, (TsW.cmp hu (EvT.cname O.hk rfl) (EvT.cname O.hk rfl) (CmpT.ltI.as (b' := true) (by rfl))).t, ExT.post (BdT.cons (StT.asg (EvT.sgn 0 (EvT.cname O.hk rfl) (EvT.cname O.hk rfl) rfl (a := 42) rfl (by decide)) (SoT.loc O.hk)) (BdT.cons (StT.asg (EvT.bin (EvT.cname O.hk rfl) EvT.cint BinT.add) (SoT.loc O.hk)) (BdT.cons (StT.ifT (TsW.cmp hu (EvT.cname O.hk rfl) EvT.cstr (CmpT.eqS.as (b' := true) (by decide +kernel))).t (BdT.cons (StT.ifT (TsW.orT (TsW.not (b := false) (TsT.plain (EvT.cname O.hk rfl) rfl (Nat.le_of_ble_eq_true rfl))).t).t (BdT.cons (StT.bapp (x := Str.ofString "res") (d := eS) O.hk rfl rfl (EvT.cname O.hk rfl) hS.add (Nat.le_of_ble_eq_true rfl)) BdT.nil)) BdT.nil)) BdT.nil))) fun z r => bd_sub (L := [(Str.ofString "res", _), (Str.ofString "i", _), (Str.ofString "c", _), (Str.ofString "i", _), (Str.ofString "n", _), (Str.ofString "res", _), (Str.ofString "add", _), (Str.ofString "pat", _), (Str.ofString "STAR", _), (Str.ofString "QUESTION_MARK", _)]) (Γ0 := noG) (fun _ _ => rfl) (all_cons rfl (all_cons rfl (all_cons rfl (all_cons rfl (all_cons rfl (all_cons rfl (all_one rfl))))))), .inl rfl⟩
      · exact .inr ⟨0, (5, [none, some [91, 49, 50, 93]]), .next, rfl, by decide, (TsW.cmp hu (EvT.cname O.hk rfl) (EvT.cname O.hk rfl) (CmpT.ltI.as (b' := true) (by rfl))).t, ExT.post (BdT.cons (StT.asg (EvT.sgn 1 (EvT.cname O.hk rfl) (EvT.cname O.hk rfl) rfl (a := 91) rfl (by decide)) (SoT.loc O.hk)) (BdT.cons (StT.asg (EvT.bin (EvT.cname O.hk rfl) EvT.cint BinT.add) (SoT.loc O.hk)) (BdT.cons (StT.ifF (TsW.cmp hu (EvT.cname O.hk rfl) EvT.cstr (CmpT.eqS.as (b' := false) (by decide +kernel))).t (BdT.cons (StT.ifF (TsW.cmp hu (EvT.cname O.hk rfl) EvT.cstr (CmpT.eqS.as (b' := false) (by decide +kernel))).t (BdT.cons (StT.ifT (TsW.cmp hu (EvT.cname O.hk rfl) EvT.cstr (CmpT.eqS.as (b' := true) (by decide +kernel))).t (BdT.cons (StT.asg (EvT.cname O.hk rfl) (SoT.loc O.hk)) (BdT.cons (StT.ifF (TsW.andT (TsW.cmp hu (EvT.cname O.hk rfl) (EvT.cname O.hk rfl) (CmpT.ltI.as (b' := true) (by rfl))).t (TsW.andF (TsW.cmp hu (EvT.sgn 2 (EvT.cname O.hk rfl) (EvT.cname O.hk rfl) rfl (a := 49) rfl (by decide)) EvT.cstr (CmpT.eqS.as (b' := false) (by decide +kernel))).t)).t BdT.nil) (BdT.cons (StT.ifF (TsW.andT (TsW.cmp hu (EvT.cname O.hk rfl) (EvT.cname O.hk rfl) (CmpT.ltI.as (b' := true) (by rfl))).t (TsW.andF (TsW.cmp hu (EvT.sgn 2 (EvT.cname O.hk rfl) (EvT.cname O.hk rfl) rfl (a := 49) rfl (by decide)) EvT.cstr (CmpT.eqS.as (b' := false) (by decide +kernel))).t)).t BdT.nil) (BdT.cons (StT.whl (WhT.step (TsW.andT (TsW.cmp hu (EvT.cname O.hk rfl) (EvT.cname O.hk rfl) (CmpT.ltI.as (b' := true) (by rfl))).t (TsW.andT (TsW.cmp hu (EvT.sgn 2 (EvT.cname O.hk rfl) (EvT.cname O.hk rfl) rfl (a := 49) rfl (by decide)) EvT.cstr (CmpT.neS.as (b' := true) (by decide +kernel))).t TsW.andN)).t (BdT.cons (StT.asg (EvT.bin (EvT.cname O.hk rfl) EvT.cint BinT.add) (SoT.loc O.hk)) BdT.nil) (.inl rfl) (WhT.step (TsW.andT (TsW.cmp hu (EvT.cname O.hk rfl) (EvT.cname O.hk rfl) (CmpT.ltI.as (b' := true) (by rfl))).t (TsW.andT (TsW.cmp hu (EvT.sgn 3 (EvT.cname O.hk rfl) (EvT.cname O.hk rfl) rfl (a := 50) rfl (by decide)) EvT.cstr (CmpT.neS.as (b' := true) (by decide +kernel))).t TsW.andN)).t (BdT.cons (StT.asg (EvT.bin (EvT.cname O.hk rfl) EvT.cint BinT.add) (SoT.loc O.hk)) BdT.nil) (.inl rfl) (WhT.done (n := 0) (TsW.andT (TsW.cmp hu (EvT.cname O.hk rfl) (EvT.cname O.hk rfl) (CmpT.ltI.as (b' := true) (by rfl))).t (TsW.andF (TsW.cmp hu (EvT.sgn 4 (EvT.cname O.hk rfl) (EvT.cname O.hk rfl) rfl (a := 93) rfl (by decide)) EvT.cstr (CmpT.neS.as (b' := false) (by decide +kernel))).t)).t)))) (BdT.cons (StT.ifF (TsW.cmp hu (EvT.cname O.hk rfl) (EvT.cname O.hk rfl) (CmpT.geI.as (b' := false) (by rfl))).t (BdT.cons (StT.asg (EvT.as (EvT.sliceSS (EvT.cname O.hk rfl) (EvT.cname O.hk rfl) (EvT.cname O.hk rfl) (by decide)) (congrArg (fun x => Rv.d (.str x)) (show _ = S [49, 50] by decide +kernel))) (SoT.loc O.hk)) (BdT.cons (StT.ifT (TsW.cmp hu EvT.cstr (EvT.cname O.hk rfl) (CmpT.ninS.as (b' := true) (by decide +kernel))).t (BdT.cons (StT.asg (EvT.meth O (EvT.cname O.hk rfl) MethT.replace (EvTs.cons EvT.cstr (EvTs.cons EvT.cstr EvTs.nil)) (CallT.replaceN (by decide +kernel))) (SoT.loc O.hk)) BdT.nil)) (BdT.cons (StT.asg (EvT.subLam O (.head _) (code212 O.X) rfl rfl rfl isPat187 (fun F N hf q => sub187 F N O.X hf (by decide) (by decide) tw_12 (by decide) q) (EvT.glob O (by k_is)) (EvT.cname O.hk rfl)) (SoT.loc O.hk)) (BdT.cons (StT.asg (EvT.bin (EvT.cname O.hk rfl) EvT.cint BinT.add) (SoT.loc O.hk)) (BdT.cons (StT.ifF (TsW.not (b := true) (TsT.plain (EvT.cname O.hk rfl) (by decide +kernel) (by decide))).t (BdT.cons (StT.ifF (TsW.cmp hu (EvT.cname O.hk rfl) EvT.cstr (CmpT.eqS.as (b' := false) (by decide +kernel))).t (BdT.cons (StT.ifF (TsW.cmp hu (EvT.hdS O.hk rfl) EvT.cstr (CmpT.eqS.as (b' := false) (by decide +kernel))).t (BdT.cons (StT.ifF (TsW.cmp hu (EvT.hdS O.hk rfl) (EvT.tup (ds := [.str (Str.ofString "^"), .str (Str.ofString "[")]) (EvTs.cons EvT.cstr (EvTs.cons EvT.cstr EvTs.nil)) (by decide)) ((CmpT.inT (ys := [Str.ofString "^", Str.ofString "["])).as (b' := false) (by decide +kernel))).t BdT.nil) BdT.nil)) (BdT.cons (StT.bapp (x := Str.ofString "res") (d := .d (.str (S [91, 49, 50, 93]))) O.hk rfl rfl (EvT.fstr (JpT.cons (EvT.cS [91]) (by decide) (JpT.cons (EvT.fv (EvT.cname O.hk rfl) (by decide)) (by decide) (JpT.cons (EvT.cS [93]) (by decide) (JpT.nil (by decide)))))) (fun _ _ _ h => h) (Nat.le_of_ble_eq_true rfl)) BdT.nil))) BdT.nil)) BdT.nil)))))) BdT.nil)))))) BdT.nil)) BdT.nil)) BdT.nil))) fun z r => bd_sub (L := [(Str.ofString "res", _), (Str.ofString "i", _), (Str.ofString "stuff", _), (Str.ofString "stuff", _), (Str.ofString "stuff", _), (Str.ofString "j", _), (Str.ofString "j", _), (Str.ofString "j", _), (Str.ofString "i", _), (Str.ofString "c", _), (Str.ofString "i", _), (Str.ofString "n", _), (Str.ofString "res", _), (Str.ofString "add", _), (Str.ofString "pat", _), (Str.ofString "STAR", _), (Str.ofString "QUESTION_MARK", _)]) (Γ0 := noG) (fun _ _ => rfl) (all_cons rfl (all_cons rfl (all_cons rfl (all_cons rfl (all_cons rfl (all_cons rfl (all_one rfl))))))), .inl rfl⟩
      · exact .inl ⟨rfl, (TsW.cmp hu (EvT.cname O.hk rfl) (EvT.cname O.hk rfl) (CmpT.ltI.as (b' := false) (by rfl))).t⟩
end Mine
end
section
open PySem PySem.W PySem.W.X PyProof.Rows PyProof.Rows.LCg PySem.Builtin.Str
set_option maxRecDepth 100000
set_option maxHeartbeats 4000000
set_option Elab.async false
namespace Mine
noncomputable def fit1 (T : Str) (c : Nat) : Bool := if ((Txt.slice T none (some 2)).cps.toList == (Str.ofString "[^").cps.toList) = true then !Txt.contains (Txt.slice T (some 2) (some (-1))) (S [c]) else ((T.cps.toList == (Str.ofString ".").cps.toList) || Txt.contains (Txt.stripChars T (Str.ofString "[]")) (S [c]))
noncomputable def fitsP : List (Option Str) → List Nat → Bool
  | [], key => key.isEmpty
  | none :: r, key => (List.range (key.length + 1)).any fun k => fitsP r (key.drop k)
  | some _ :: _, [] => false
  | some T :: r, c :: cs => fit1 T c && fitsP r cs
theorem any_filter {l : List Nat} {f : Nat → Bool} : (!(l.filter f).isEmpty) = l.any f := by
  induction l with
  | nil => rfl
  | cons a r ih => cases h : f a <;> simp [h, ih]
noncomputable def pcD : Option Str → Dat
  | none => .none
  | some T => .str T
noncomputable def PcOk (q : Option Str) : Prop := kqdOk 8 (pcD q) = true ∧ ∀ T, q = some T → T.length ≤ 100
theorem e_key (key : List Nat) : ((S key).cps.toList == (Str.ofString "").cps.toList) = key.isEmpty := by
  cases key with
  | nil => decide
  | cons c r => rfl
noncomputable abbrev FitsC (ps : List (Option Str)) (key : List Nat) : Prop := CallT (ps.length + 1) (64 + 3 * ps.length + 3) (.ref 240) [.d (.list (ps.map pcD)), .d (.str (S key))] (.d (.bool (fitsP ps key)))
theorem fits_step (ps : List (Option Str)) (key : List Nat) (hp : ∀ p ∈ ps, PcOk p) (hl : ps.length ≤ 10) (hk : key.length ≤ 100) (ih : ∀ p r, ps = p :: r → ∀ k2 : List Nat, k2.length ≤ 100 → FitsC r k2) : FitsC ps key := by
  have _key : (fun (_ : OpenLaw) (_ : Params → Frag) => True) PySem.Challenge.rw_kq0058_01 hd.heap_1 := by k_fill; trivial
  clear _key
  refine' CallT.def [Str.ofString "pieces", Str.ofString "key"] (fun P => ?ho) (fun P => ?hcd) (fun s => len_two fun a b => ?hb) ?hok ?hfree ?hr ?h ?hco ?hgen
  case ho => k_is
  case hcd => k_is
  case hb => exact BindsTo.of_eq rfl
  case hok => rfl
  case hfree => rfl
  case hr => rfl
  case hco => rfl
  case hgen => rfl
  case h =>
    intro k O
    have hu := (O.le (Nat.le_refl _) (Nat.le_add_right 64 _)).un
    cases ps with
    | nil =>
      refine BdT.ret (StT.ifT (TsW.cmp hu (EvT.cname O.hk rfl) (EvT.lst (ds := []) EvTs.nil (Nat.zero_le _)) (CmpT.eqL noD noD (b := true) (by simp))).t (BdT.retN ?_))
      exact EvT.as (EvT.cmp hu (EvT.cname O.hk rfl) EvT.cstr CmpT.eqS) (by rw [e_key]; rfl)
    | cons p r =>
      have hok : ∀ d ∈ (p :: r).map pcD, kqdOk 8 d = true := fun d hd => by
        obtain ⟨q, hq, rfl⟩ := List.mem_map.mp hd
        exact (hp q hq).1
      have IH := ih p r rfl
      have hrl : (r.map pcD).length ≤ 1000 := by rw [List.length_map]; exact Nat.le_trans (Nat.le_of_succ_le hl) (by decide)
      refine BdT.cons (StT.ifF (TsW.cmp hu (EvT.cname O.hk rfl) (EvT.lst (ds := []) EvTs.nil (Nat.zero_le _)) (CmpT.eqL hok noD (b := false) (by simp))).t BdT.nil) ?_
      cases p with
      | none =>
        refine BdT.ret (StT.ifT (TsW.cmp hu (EvT.hd0 O.hk rfl) EvT.cnone CmpT.isNone).t (BdT.retN ?_))
        refine EvT.as (EvT.cmp hu (EvT.cmpr (by decide) rfl (Cap.cons (Cap.cons Cap.nil rfl rfl rfl rfl rfl rfl) rfl rfl rfl rfl rfl rfl) (EvT.callY O (EvT.bltn O (by k_is) (by kernel_rfl)) (EvTs.cons (EvT.bin (EvT.callB O (EvT.bltn O (by k_is) (by kernel_rfl)) (EvTs.cons (EvT.cname O.hk rfl) EvTs.nil) (CallT.lenS ?_)) EvT.cint BinT.add) EvTs.nil) CallT.range1) (ItT.rangeN (m := key.length + 1) ?_ ?_) ?_ (CoT.flt (p := fun j => fitsP r (key.drop j)) (g := fun (j : Nat) => .int j) ?_ ?_)) (EvT.lst (ds := []) EvTs.nil (Nat.zero_le _)) (CmpT.neL (b := !(List.range (key.length + 1)).any fun j => fitsP r (key.drop j)) ?_ noD ?_)) ?_
        · rw [S_len]; lia
        · rw [S_len]; rfl
        · lia
        · rw [List.length_map, List.length_range]; lia
        · intro j hj hb
          refine CuT.nT rfl (fun C => ?_) (fun C => EvT.cname rfl rfl)
          exact TsT.plain (EvT.callK (O.le (Nat.le_refl _) (Nat.le_refl _)) (EvT.glob O (by k_is)) (EvTs.cons (EvT.tl1 rfl rfl hrl) (EvTs.cons (EvT.as (EvT.sliceSN (EvT.cname rfl rfl) (EvT.cname rfl rfl) (by rw [S_len]; lia)) (by rw [slice_from _ _ (Nat.lt_succ_iff.mp (List.mem_range.mp hj))])) EvTs.nil)) (IH (key.drop j) (by rw [List.length_drop]; lia)) (by intro P; k_is)) (congrArg some hb) (Nat.zero_le _)
        · intro j hj hb
          refine CuT.nF rfl (fun C => ?_)
          exact TsT.plain (EvT.callK (O.le (Nat.le_refl _) (Nat.le_refl _)) (EvT.glob O (by k_is)) (EvTs.cons (EvT.tl1 rfl rfl hrl) (EvTs.cons (EvT.as (EvT.sliceSN (EvT.cname rfl rfl) (EvT.cname rfl rfl) (by rw [S_len]; lia)) (by rw [slice_from _ _ (Nat.lt_succ_iff.mp (List.mem_range.mp hj))])) EvTs.nil)) (IH (key.drop j) (by rw [List.length_drop]; lia)) (by intro P; k_is)) (congrArg some hb) (Nat.zero_le _)
        · intro d hd
          obtain ⟨j, _, rfl⟩ := List.mem_map.mp hd
          rfl
        · rw [List.map_eq_nil_iff, ← any_filter]; simp
        · rw [Bool.not_not]; rfl
      | some T =>
        refine BdT.cons (StT.ifF (TsW.cmp hu (EvT.hd0 O.hk rfl) EvT.cnone CmpT.isStr).t BdT.nil) ?_
        have hT : T.length ≤ 1000000 := Nat.le_trans ((hp _ (.head _)).2 T rfl) (by decide)
        cases key with
        | nil => exact BdT.ret (StT.ifT (TsW.cmp hu (EvT.cname O.hk rfl) EvT.cstr (CmpT.eqS.as (by rfl))).t (BdT.retN EvT.cbool))
        | cons a key =>
          refine BdT.cons (StT.ifF (TsW.cmp hu (EvT.cname O.hk rfl) EvT.cstr (CmpT.eqS.as (by rfl))).t BdT.nil) ?_
          refine BdT.cons (Γ₁ := put _ (Str.ofString "fits") (.d (.bool (fit1 T a)))) (StT.ifB (TsW.cmp hu (EvT.sliceNS (EvT.hd0 O.hk rfl) EvT.cint hT) EvT.cstr (CmpT.eqS.as (by rfl))).t (fun hb => BdT.cons (StT.asg ?_ (SoT.loc O.hk)) BdT.nil) (fun hb => BdT.cons (StT.asg ?_ (SoT.loc O.hk)) BdT.nil)) ?_
          · exact EvT.as (EvT.cmp hu (EvT.hdS O.hk rfl) (EvT.sliceSS (EvT.hd0 O.hk rfl) EvT.cint EvT.neg hT) CmpT.ninS) (by unfold fit1; rw [if_pos hb])
          · refine EvT.as (EvT.orB (EvT.cmp hu (EvT.hd0 O.hk rfl) EvT.cstr CmpT.eqS) fun _ => EvT.cmp hu (EvT.hdS O.hk rfl) (EvT.meth O (EvT.hd0 O.hk rfl) MethT.strip (EvTs.cons EvT.cstr EvTs.nil) (CallT.stripC hT)) CmpT.inS) (by unfold fit1; rw [if_neg (by rw [hb]; decide)])
          · refine BdT.retN (EvT.andB (EvT.cname O.hk rfl) fun _ => EvT.callK (O.le (Nat.le_refl _) (Nat.le_refl _)) (EvT.glob O (by k_is)) (EvTs.cons (EvT.tl1 O.hk rfl hrl) (EvTs.cons (EvT.tlS O.hk rfl ?_) EvTs.nil)) (IH key ?_) (by intro P; k_is))
            · simp at hk; lia
            · simp at hk; lia
theorem fits_T : ∀ (ps : List (Option Str)) (key : List Nat), (∀ p ∈ ps, PcOk p) → ps.length ≤ 10 → key.length ≤ 100 → FitsC ps key
  | [], key, hp, hl, hk => fits_step [] key hp hl hk fun _ _ e => nomatch e
  | p :: r, key, hp, hl, hk => fits_step (p :: r) key hp hl hk fun _ _ e k2 h2 => by
    cases e
    exact fits_T r k2 (fun q hq => hp q (.tail _ hq)) (Nat.le_of_succ_le hl) h2
end Mine
end
section
open PySem PySem.W PyProof.Rows PySem.Sre PySem.Builtin.Str
set_option maxRecDepth 100000
set_option Elab.async false
namespace Mine
theorem b64I_all : ∀ o ∈ allOct, b64I (o.map Int.ofNat) = b64L o := by decide +kernel
theorem octN_mem (z : Int) : octN z ∈ octD := by
  unfold octN
  repeat' split
  all_goals decide
theorem all1 : ∀ a ∈ octD, [a] ∈ allOct := by decide
theorem all2 : ∀ a ∈ octD, ∀ b ∈ octD, [a, b] ∈ allOct := by decide
theorem all3 : ∀ a ∈ octD, ∀ b ∈ octD, ∀ c ∈ octD, [a, b, c] ∈ allOct := by decide +kernel
theorem octL_mem (x : Int) : octL x ∈ allOct := by
  unfold octL
  have h0 := Int.fmod_nonneg_of_pos (x.fdiv 4) (by decide : (0:Int) < 3)
  have h1 := Int.fmod_lt_of_pos (x.fdiv 4) (by decide : (0:Int) < 3)
  generalize (x.fdiv 4).fmod 3 = z at h0 h1
  obtain rfl | rfl | rfl : z = 0 ∨ z = 1 ∨ z = 2 := by lia
  · exact all1 _ (octN_mem _)
  · exact all2 _ (octN_mem _) _ (octN_mem _)
  · exact all3 _ (octN_mem _) _ (octN_mem _) _ (octN_mem _)
noncomputable def keyL (x : Int) : List Nat := if x.fmod 4 = 0 then [97, 49] else if x.fmod 4 = 1 then [97, 50] else if x.fmod 4 = 2 then [98, 49] else [98, 50]
noncomputable def prL (x : Int) : KV := (keyL x, b64L (octL x))
noncomputable def keys4 : List (List Nat) := [[97, 49], [97, 50], [98, 49], [98, 50]]
theorem key_mem (x : Int) : keyL x ∈ keys4 := by
  unfold keyL
  split
  · decide
  · split
    · decide
    · split <;> decide
theorem key_at (x : Int) : (keys4.map tx)[(x.fmod 4).toNat]? = some (tx (keyL x)) := by
  have h0 := Int.fmod_nonneg_of_pos x (by decide : (0:Int) < 4)
  have h1 := Int.fmod_lt_of_pos x (by decide : (0:Int) < 4)
  unfold keyL
  generalize x.fmod 4 = z at h0 h1
  obtain rfl | rfl | rfl | rfl : z = 0 ∨ z = 1 ∨ z = 2 ∨ z = 3 := by lia
  all_goals rfl
theorem key4 : ∀ k ∈ keys4, k.length = 2 ∧ k ≠ [] ∧ (∀ c ∈ k, tokc c = true) ∧ ∀ c ∈ k, c < 128 := by decide
noncomputable def patRow : List KV := [([112], [97, 63]), ([113], [42, 49]), ([114], [91, 33, 97, 93, 42]), ([115], [98, 50]), ([116], [42, 91, 49, 50, 93])]
theorem pat_key : ∀ p ∈ patRow, p.1.length ≤ 2 ∧ p.1 ≠ [] ∧ (∀ c ∈ p.1, tokc c = true) ∧ (∀ c ∈ p.1, c < 128) ∧ p.2 ∈ pats.map (·.1) := by decide
noncomputable def failsB (n : Nat) (m : M) : Bool := match (m.runFor n).outcome with | some .failed => true | _ => false
noncomputable def matsB (n : Nat) (m : M) : Bool := match (m.runFor n).outcome with | some .matched => true | _ => false
theorem failsB_hits {n : Nat} {m : M} (h : failsB n m = true) (hn : n ≤ 10000) : Hits 10000 m Failed := by
  refine ⟨_, ⟨n, hn, rfl⟩, ?_⟩
  unfold failsB at h
  split at h
  · assumption
  · cases h
theorem matsB_hits {n : Nat} {m : M} (h : matsB n m = true) (hn : n ≤ 10000) : Hits 10000 m fun m => m.outcome = some .matched := by
  refine ⟨_, ⟨n, hn, rfl⟩, ?_⟩
  unfold matsB at h
  split at h
  · assumption
  · cases h
noncomputable def valB (v : List Nat) : Bool := decide (2 ≤ v.length) && (decide (v.length ≤ 7) && (v.all quoc && (v.all (fun c => decide (c < 128)) && (failsB 300 (forSearch cESC (S v).cps 1 0 (S v).cps.size false) &&
  (if v.all bc then matsB 300 (forMatch cJT (S v).cps 0 0 (S v).cps.size true false) else failsB 300 (forMatch cJT (S v).cps 0 0 (S v).cps.size true false) && failsB 300 (forSearch cJE (S v).cps 1 0 (S v).cps.size false))))))
structure OkW (v : List Nat) : Prop where
  v2 : 2 ≤ v.length
  v7 : v.length ≤ 7
  quo : ∀ c ∈ v, c ≠ 34
  asc : ∀ c ∈ v, c < 128
  okV : OkV v
  okP : ∀ k : List Nat, k ≠ [] → (∀ c ∈ k, tokc c = true) → OkP (k, v)
theorem okW_of {v : List Nat} (h : valB v = true) : OkW v := by
  unfold valB at h
  simp only [Bool.and_eq_true, decide_eq_true_eq] at h
  obtain ⟨h2, h7, hq, ha, he, hm⟩ := h
  have hq' : ∀ c ∈ v, quoc c = true := fun c hc => List.all_eq_true.mp hq c hc
  refine ⟨h2, h7, fun c hc e => ?_, fun c hc => by simpa using List.all_eq_true.mp ha c hc, ⟨Nat.le_trans (by decide) h2, Nat.le_trans h7 (by decide), fun hb => ?_, fun hb => ?_⟩, fun k hk hkc => ⟨hk, hkc, h2, hq', failsB_hits he (by decide)⟩⟩
  · have := hq' c hc; rw [e] at this; exact absurd this (by decide)
  · rw [if_pos hb] at hm; exact matsB_hits hm (by decide)
  · rw [if_neg hb, Bool.and_eq_true] at hm; exact ⟨failsB_hits hm.1 (by decide), failsB_hits hm.2 (by decide)⟩
theorem pats_val : ∀ v ∈ pats.map (·.1), valB v = true := by decide +kernel
theorem oct_val : ∀ o ∈ allOct, valB (b64L o) = true := by decide +kernel
theorem oct_four : ∀ o ∈ allOct, (b64L o).length = 4 := by decide +kernel
structure PrOk (p : KV) : Prop where
  kl : p.1.length ≤ 2
  ka : ∀ c ∈ p.1, c < 128
  w : OkW p.2
  okP : OkP p
theorem pr_ok (x : Int) : PrOk (prL x) := by
  obtain ⟨h1, h2, h3, h4⟩ := key4 _ (key_mem x)
  have w := okW_of (oct_val _ (octL_mem x))
  exact ⟨Nat.le_of_eq h1, h4, w, w.okP _ h2 h3⟩
theorem pat_ok {p : KV} (h : p ∈ patRow) : PrOk p := by
  obtain ⟨h1, h2, h3, h4, h5⟩ := pat_key p h
  have w := okW_of (pats_val _ h5)
  exact ⟨h1, h4, w, w.okP _ h2 h3⟩
theorem row_ok (ms : List Int) : ∀ p ∈ ms.map prL, PrOk p := fun p hp => by
  obtain ⟨x, _, rfl⟩ := List.mem_map.mp hp
  exact pr_ok x
noncomputable def sg (r : List KV) : List (Bool × KV) := r.map fun p => (false, p)
noncomputable def itemsR : List (List KV) → List (Bool × KV)
  | [] => []
  | [] :: r => itemsR r
  | (p :: ps) :: r => (true, p) :: (sg ps ++ itemsR r)
theorem tail_app : ∀ a b : List (Bool × KV), tailT (a ++ b) = tailT a ++ tailT b
  | [], b => rfl
  | (x, p) :: a, b => by simp [tailT, tail_app a b]
theorem sg_flat : ∀ ps : List KV, (ps.map kvT).flatMap ([59, 32] ++ ·) = tailT (sg ps)
  | [] => rfl
  | p :: ps => by
    rw [List.map_cons, List.flatMap_cons, sg_flat ps]
    simp [sg, tailT, sepT]
theorem rowT_cons (p : KV) (ps : List KV) : rowT (p :: ps) = kvT p ++ tailT (sg ps) := by
  unfold rowT
  rw [List.map_cons, joinL, sg_flat]
theorem items_flat : ∀ rest : List (List KV), (∀ r ∈ rest, r ≠ []) → (rest.map rowT).flatMap ([44, 32] ++ ·) = tailT (itemsR rest)
  | [], _ => rfl
  | [] :: r, h => absurd rfl (h [] (.head _))
  | (p :: ps) :: r, h => by
    rw [List.map_cons, List.flatMap_cons, items_flat r (fun x hx => h x (.tail _ hx)), rowT_cons]
    show _ = tailT ((true, p) :: (sg ps ++ itemsR r))
    simp [tailT, sepT, tail_app]
theorem hStep_map : ∀ (rows : List (List KV)) (hs : List (List Nat)), (∀ r ∈ rows, r ≠ []) → rows.foldl hStep hs = hs ++ rows.map rowT
  | [], hs, _ => (List.append_nil _).symm
  | r :: rows, hs, h => by
    rw [List.foldl_cons, hStep_map rows _ fun x hx => h x (.tail _ hx)]
    unfold hStep
    rw [if_neg (h r (.head _)), List.append_assoc]
    rfl
theorem head_eq (p : KV) (ps : List KV) (rest : List (List KV)) (hne : ∀ r ∈ rest, r ≠ []) : headT ((p :: ps) :: rest) = kvT p ++ tailT (sg ps ++ itemsR rest) := by
  unfold headT
  rw [hStep_map _ _ (fun r hr => by
    rcases List.mem_cons.mp hr with rfl | hr
    · simp
    · exact hne r hr), List.nil_append, List.map_cons, joinL, items_flat rest hne, rowT_cons, tail_app, List.append_assoc]
theorem goal_sg : ∀ (ps : List KV) (done : List (List KV)) (pr : List KV) (r : List (Bool × KV)), goalR done pr (sg ps ++ r) = goalR done (pr ++ ps) r
  | [], done, pr, r => by simp [sg]
  | p :: ps, done, pr, r => by
    show goalR done (pr ++ [p]) (sg ps ++ r) = _
    rw [goal_sg ps]; simp
theorem goal_items : ∀ (rest : List (List KV)) (done : List (List KV)) (pr : List KV), pr ≠ [] → (∀ r ∈ rest, r ≠ []) → goalR done pr (itemsR rest) = done ++ pr :: rest
  | [], done, pr, hp, _ => by simp [itemsR, goalR, hp]
  | [] :: r, done, pr, hp, h => absurd rfl (h [] (.head _))
  | (p :: ps) :: r, done, pr, hp, h => by
    show goalR (done ++ [pr]) [p] (sg ps ++ itemsR r) = _
    rw [goal_sg, goal_items r _ _ (by simp) (fun x hx => h x (.tail _ hx))]
    simp
theorem kv_len {p : KV} (h : PrOk p) : (kvT p).length ≤ 12 := by
  have h1 := h.kl
  have h2 := h.w.v7
  unfold kvT Wr
  split <;> simp <;> lia
theorem tail_len : ∀ (l : List (Bool × KV)), (∀ x ∈ l, PrOk x.2) → (tailT l).length ≤ 14 * l.length
  | [], _ => Nat.le_refl _
  | (b, p) :: r, h => by
    have h2 := tail_len r fun x hx => h x (.tail _ hx)
    have h3 := kv_len (h (b, p) (.head _))
    have h4 : (sepT b).length = 2 := by cases b <;> rfl
    simp only [tailT, List.length_append, List.length_cons] at *
    lia
theorem items_ok : ∀ rest : List (List KV), (∀ r ∈ rest, ∀ p ∈ r, PrOk p) → ∀ x ∈ itemsR rest, PrOk x.2
  | [], _, _, h => nomatch h
  | [] :: r, h, x, hx => items_ok r (fun y hy => h y (.tail _ hy)) x hx
  | (p :: ps) :: r, h, x, hx => by
    rcases List.mem_cons.mp hx with rfl | hx
    · exact h _ (.head _) _ (.head _)
    · rcases List.mem_append.mp hx with hx | hx
      · obtain ⟨q, hq, rfl⟩ := List.mem_map.mp hx
        exact h _ (.head _) _ (.tail _ hq)
      · exact items_ok r (fun y hy => h y (.tail _ hy)) x hx
theorem head_sI {p : KV} {ps : List KV} {rest : List (List KV)} (hne : ∀ r ∈ rest, r ≠ []) (h : ∀ r ∈ (p :: ps) :: rest, ∀ q ∈ r, PrOk q) (hz : ps.length + (itemsR rest).length ≤ 40) : sI ((p :: ps) :: rest) (2 * (ps.length + (itemsR rest).length) + 1) (headT ((p :: ps) :: rest), [], []) := by
  have hi : ∀ x ∈ sg ps ++ itemsR rest, PrOk x.2 := fun x hx => by
    rcases List.mem_append.mp hx with hx | hx
    · obtain ⟨q, hq, rfl⟩ := List.mem_map.mp hx
      exact h _ (.head _) _ (.tail _ hq)
    · exact items_ok rest (fun r hr => h r (.tail _ hr)) x hx
  have hp := h _ (.head _) p (.head _)
  have hl : (sg ps ++ itemsR rest).length = ps.length + (itemsR rest).length := by rw [List.length_append]; unfold sg; rw [List.length_map]
  refine ⟨?_, ?_, sg ps ++ itemsR rest, fun x hx => (hi x hx).okP, .inr ⟨[], p, .inl rfl, head_eq p ps rest hne, hp.okP, ?_, by rw [hl]⟩⟩
  · show (headT _).length ≤ 100000
    rw [head_eq p ps rest hne, List.length_append]
    have := tail_len _ hi
    have := kv_len hp
    lia
  · show 0 + 0 + (2 * (ps.length + (itemsR rest).length) + 1) ≤ 1000
    lia
  · show goalR [] ([] ++ [p]) (sg ps ++ itemsR rest) = _
    rw [goal_sg, goal_items _ _ _ (by simp) hne]
    simp
theorem nil_sI : sI [] 0 (headT [[]], [], []) := ⟨by decide, by decide, [], (fun _ h => nomatch h), .inl ⟨rfl, fun h => absurd rfl h, rfl, rfl⟩⟩
theorem items_pat : (itemsR [patRow]).length = 5 := by decide
theorem hdr_sI {ms : List Int} (h : ms ≠ []) (hlen : ms.length ≤ 14) : ∃ n, sI [ms.map prL, patRow] n (headT [ms.map prL, patRow], [], []) := by
  cases ms with
  | nil => exact absurd rfl h
  | cons x r =>
    have hl : r.length + 1 ≤ 14 := hlen
    exact ⟨_, head_sI (p := prL x) (ps := r.map prL) (rest := [patRow]) (all_one (by decide)) (all_cons (row_ok (x :: r)) (all_one fun p hp => pat_ok hp)) (by rw [List.length_map, items_pat]; lia)⟩
theorem one_sI {ms : List Int} (hlen : ms.length ≤ 14) : ∃ n, sI (if ms = [] then [] else [ms.map prL]) n (headT [ms.map prL], [], []) := by
  cases ms with
  | nil => exact ⟨_, nil_sI⟩
  | cons x r =>
    rw [if_neg (by simp)]
    have hl : r.length + 1 ≤ 14 := hlen
    exact ⟨_, head_sI (p := prL x) (ps := r.map prL) (rest := []) (fun _ h => nomatch h) (all_one (row_ok (x :: r))) (by rw [List.length_map]; show r.length + 0 ≤ 40; lia)⟩
theorem rows_len (rows : List (List KV)) (h : ∀ r ∈ rows, r.length ≤ 14 ∧ ∀ p ∈ r, PrOk p) : ∀ r ∈ rows, r.length ≤ 100 ∧ ∀ p ∈ r, p.1.length ≤ 100 ∧ OkV p.2 := fun r hr => ⟨Nat.le_trans (h r hr).1 (by decide), fun p hp => ⟨Nat.le_trans ((h r hr).2 p hp).kl (by decide), ((h r hr).2 p hp).w.okV⟩⟩
theorem str_ok {v : List Nat} (h : ∀ c ∈ v, c < 128) {n : Nat} : kqdOk n (Dat.str (S v)) = true := by
  cases n <;> (simp only [kqdOk, PyData.strOk]; rw [List.all_toArray, List.all_eq_true]; intro c hc; have := h c hc; simp; lia)
theorem pairD_ok {p : KV} (h : PrOk p) {n : Nat} : kqdOk (n + 1) (pairD p) = true := by
  simp only [pairD, tx, kqdOk, List.all_cons, List.all_nil, str_ok h.ka, str_ok h.w.asc, Bool.and_self]
theorem pairsD_ok {r : List KV} (h : ∀ p ∈ r, PrOk p) : ∀ d ∈ r.map pairD, kqdOk 8 d = true := fun d hd => by
  obtain ⟨p, hp, rfl⟩ := List.mem_map.mp hd
  exact pairD_ok (n := 7) (h p hp)
theorem rowD_ok {rows : List (List KV)} (h : ∀ r ∈ rows, ∀ p ∈ r, PrOk p) : ∀ d ∈ rows.map rowD, kqdOk 8 d = true := fun d hd => by
  obtain ⟨r, hr, rfl⟩ := List.mem_map.mp hd
  simp only [rowD, kqdOk, List.all_eq_true, List.mem_map]
  rintro d ⟨p, hp, rfl⟩
  exact pairD_ok (n := 6) (h r hr p hp)
theorem txs_ok {α : Type} {f : α → List Nat} {l : List α} (h : ∀ a ∈ l, ∀ c ∈ f a, c < 128) : ∀ d ∈ l.map (fun a => tx (f a)), kqdOk 8 d = true := fun d hd => by
  obtain ⟨a, ha, rfl⟩ := List.mem_map.mp hd
  exact str_ok (h a ha)
theorem rowT_len {r : List KV} (hl : r.length ≤ 14) (h : ∀ p ∈ r, PrOk p) : (rowT r).length ≤ 300 := by
  cases r with
  | nil => decide
  | cons p ps =>
    rw [rowT_cons, List.length_append]
    have h1 := kv_len (h p (.head _))
    have h2 := tail_len (sg ps) fun x hx => by
      obtain ⟨q, hq, rfl⟩ := List.mem_map.mp hx
      exact h q (.tail _ hq)
    have h3 : ps.length + 1 ≤ 14 := hl
    have h4 : (sg ps).length = ps.length := List.length_map _
    lia
noncomputable def mk0 (k : List Nat) : Bool := k.getD 0 0 == 97
noncomputable def mk1 (k : List Nat) : Bool := k.getD 1 0 == 49
noncomputable def mk2 (k : List Nat) : Bool := k.getD 0 0 != 97
noncomputable def mk3 (k : List Nat) : Bool := k == [98, 50]
noncomputable def mk4 (_ : List Nat) : Bool := true
noncomputable def oS (q : Option (List Nat)) : Option Str := q.map S
noncomputable def FitM (ps : Pcs) (μ : List Nat → Bool) : Prop := ps.length ≤ 10 ∧ (∀ p ∈ ps.map oS, PcOk p) ∧ ∀ k ∈ keys4, fitsP (ps.map oS) k = μ k
theorem pc_ok {ps : Pcs} (h : ps.all (fun o => match o with | none => true | some x => decide (x.length ≤ 10) && x.all (fun c => decide (c < 128))) = true) : ∀ p ∈ ps.map oS, PcOk p := fun p hp => by
  obtain ⟨o, ho, rfl⟩ := List.mem_map.mp hp
  have z := List.all_eq_true.mp h o ho
  cases o with
  | none => exact ⟨rfl, fun T e => nomatch e⟩
  | some x =>
    simp only [Bool.and_eq_true, decide_eq_true_eq] at z
    exact ⟨str_ok fun c hc => by simpa using List.all_eq_true.mp z.2 c hc, fun T e => by cases e; rw [S_len]; exact Nat.le_trans z.1 (by decide)⟩
theorem fit0 : FitM [some [97], some [46]] mk0 := ⟨by decide, pc_ok (by decide), by decide +kernel⟩
theorem fit1' : FitM [none, some [49]] mk1 := ⟨by decide, pc_ok (by decide), by decide +kernel⟩
theorem fit2 : FitM [some [91, 94, 97, 93], none] mk2 := ⟨by decide, pc_ok (by decide), by decide +kernel⟩
theorem fit3 : FitM [some [98], some [50]] mk3 := ⟨by decide, pc_ok (by decide), by decide +kernel⟩
theorem fit4 : FitM [none, some [91, 49, 50, 93]] mk4 := ⟨by decide, pc_ok (by decide), by decide +kernel⟩
end Mine
end
section
open PySem PySem.W PySem.W.X PyProof.Rows PyProof.Rows.LCg PySem.Calls PySem.Builtin.Str
set_option maxRecDepth 100000
set_option Elab.async false
namespace Mine
noncomputable def Rv.els : Rv → Option (List El)
  | .d (.list ds) => some (ds.map .d)
  | .lsE l => some l
  | _ => none
theorem DatAll.els {fz : Led} : ∀ {ds : List Dat} {vs : List Value}, DatAll fz vs ds → ElAll fz vs (ds.map .d)
  | [], _, h => by cases h; exact .nil
  | _ :: _, _, h => by cases h with | cons a b => exact .cons a (DatAll.els b)
theorem Rv.els_is {mu fz : Led} {r : Rv} {l : List El} {v : Value} (h : r.els = some l) (hv : r.Is mu fz v) : ∃ a vs n, v = .ref a ∧ (a, lstO (List.toArray vs) n) ∈ fz ∧ ElAll fz vs l := by
  cases r with
  | d x =>
    cases x with
    | list ds =>
      cases h
      cases hv with
      | list hm ha => exact ⟨_, _, _, rfl, hm, DatAll.els ha⟩
    | _ => cases h
  | lsE l' => cases h; exact hv
  | _ => cases h
section
variable {c : Fc} {env : Env} {Γ : Gm} {d u : Nat} {f e1 e2 : Expr} {es elts : List Expr} {r1 r2 r : Rv} {l1 l2 : List El} {rs : List Rv} {pos tp : Pos} {kk : Nat}
theorem ItX.zip {fx : Str} {fp : Pos} (hf : EvT c env Γ (.Name fx fp) (.val (.type "zip"))) (h1 : EvT c env Γ e1 r1) (h2 : EvT c env Γ e2 r2) (k1 : r1.els = some l1) (k2 : r2.els = some l2) (e : List.zipWith Rv.zp l1 l2 = rs)
    (p1 : plainE e1 = true := by rfl) (p2 : plainE e2 = true := by rfl) : ItX c env Γ (.Call (.Name fx fp) [e1, e2] [] pos) (.Tuple elts kk tp) rs := by
  constructor
  intro xt mu fz m mm s Q E S q
  refine Call_ (hf.run xt mu fz m mm s _ E S fun v f1 h1' k1' s1 S1 v1 => ?_) callN
  cases v1
  refine Pv.callWith_type1 (args_cons (h1.run xt mu f1 m mm { s with heap := h1', toks := k1' } _ E S1 fun va f2 h2' k2' s2 S2 v2 => args_cons (h2.run xt mu f2 m mm { s with heap := h2', toks := k2' } _ E S2 fun vb f3 h3' k3' s3 S3 v3 => args_nil ?_) (star1 p2)) (star1 p1)) (star1 p1) (star0 (es := [e2]) (by rw [List.all_cons, p2]; rfl))
  obtain ⟨a1, vs1, n1, rfl, m1, A1⟩ := Rv.els_is k1 (v2.mono s3)
  obtain ⟨a2, vs2, n2, rfl, m2, A2⟩ := Rv.els_is k2 v3
  have g1 := (S3.get (.inr (.inr m1))).1
  have g2 := (S3.get (.inr (.inr m2))).1
  refine call_zip_2 (s := { s with heap := h3', toks := k3' }) (⟨_, g1, rfl, n1, rfl⟩ : h3'.IsList a1 (List.toArray vs1)) (⟨_, g2, rfl, n2, rfl⟩ : h3'.IsList a2 (List.toArray vs2)) fun h' hz hTI hTO hi1 hi2 hsz' hk => ?_
  refine wpAny_pyIter_zip hz ?_
  obtain ⟨tb, T, N⟩ := S3.N
  have DA := ktu_apart _ _ _ (Heap.lt_size g1) (Heap.lt_size g2)
  have L1 : h'.IsList a1 (List.toArray vs1) := ⟨_, hk _ _ g1, rfl, n1, rfl⟩
  have L2 : h'.IsList a2 (List.toArray vs2) := ⟨_, hk _ _ g2, rfl, n2, rfl⟩
  have ge : ∀ b ∈ zipAs h3'.objs.size, h3'.objs.size ≤ b := fun b hb => by
    simp at hb
    rcases hb with rfl | rfl | rfl | rfl | rfl <;> first | exact Nat.le_refl _ | exact Nat.le_add_right _ _
  have hlen : rs.length = min (List.toArray vs1).size (List.toArray vs2).size := by
    rw [← e, List.length_zipWith, List.size_toArray, List.size_toArray, A1.length, A2.length]
  refine q f3 tb h' k3' _ (zipAs h3'.objs.size) _ _ _ (fun p hp => s3 p (s2 p (s1 p hp))) (S3.move (S3.F.keeps hk) ⟨tb, T, N.grown hk⟩) T (N.grown hk) (hlen ▸ itr_zip (n1 := n1) (n2 := n2) rfl DA) ⟨hz, hTI, ⟨_, _, hTO⟩, hi1, hi2, L1, L2⟩
    (fun b hb => ⟨ktu_new S3.F (ge b hb), Ne.symm (Nat.ne_of_lt (Nat.lt_of_lt_of_le S3.F.ns.lt (ge b hb)))⟩) (by simp) (fun p hp h => Nat.not_le.mpr (Heap.lt_size (N p hp).1) (ge _ h)) (fun p hp => ?_) ?_
  · rcases List.mem_cons.mp hp with rfl | hp
    · exact m1
    · rw [List.mem_singleton.mp hp]; exact m2
  · rintro i v h ⟨T9, vals, rfl, ⟨a, b, ha, hb, rfl⟩, hT⟩ r hr mu
    rw [← e, List.getElem?_zipWith] at hr
    cases q1 : l1[i]? with
    | none => rw [q1] at hr; cases hr
    | some x =>
      cases q2 : l2[i]? with
      | none => rw [q1, q2] at hr; cases hr
      | some y =>
        rw [q1, q2] at hr
        cases hr
        obtain ⟨v1, w1, w2⟩ := A1.get q1
        obtain ⟨v2, w3, w4⟩ := A2.get q2
        rw [List.getElem?_toArray, w1] at ha
        rw [List.getElem?_toArray, w3] at hb
        cases ha; cases hb
        exact .inr ⟨x, y, T9, _, _, rfl, rfl, hT, w2, w4⟩
structure FnT (d u : Nat) (fd : FuncData) (cc : Addr) (oc : Obj) (as : List Rv) (r : Rv) : Prop where
  run : ∀ {c : Fc} {env : Env} {Γ : Gm} {xt mu fz : Led} {m mm : Str → Option Value} {s : Shared} {Q E : Value → Shared → Prop} {f : Addr} {vs : List Value}, c.Ok d u → Es c env Γ xt mu fz m mm s.heap → (f, fnO fd) ∈ fz → (cc, oc) ∈ fz → RAll mu fz as vs →
    (∀ v fz' h' tk, (∀ p ∈ fz, p ∈ fz') → Es c env Γ xt mu fz' m mm h' → r.Is mu fz' v → Q v { s with heap := h', toks := tk }) → wpAny c.M c.A (call (.ref f) vs) Q E s
theorem EvT.callF {fx : Str} {fp : Pos} {fd : FuncData} {cc : Addr} {oc : Obj} (O : c.Ok d u) (hf : EvT c env Γ (.Name fx fp) (.fn fd cc oc)) (ha : EvTs c env Γ (e1 :: es) rs) (h : FnT d u fd cc oc rs r)
    (h1 : plainE e1 = true := by rfl) (h2 : es.all plainE = true := by rfl) : EvT c env Γ (.Call (.Name fx fp) (e1 :: es) [] pos) r := by
  refine ⟨fun xt mu fz m mm s Q E S q => ?_⟩
  refine Call_ (hf.run xt mu fz m mm s _ E S fun v f1 h1' k1 s1 S1 v1 => ?_) callN
  obtain ⟨a, rfl, ho, hc⟩ := v1
  exact PySem.W.callWith_F (first := []) ⟨_, _, fd, _, (S1.get (.inr (.inr ho))).1⟩ (ha.run xt mu f1 m mm pos _ _ E S1 fun vs f2 h2' k2 s2 S2 v2 => ⟨⟨_, _, fd, _, (S2.get (.inr (.inr (s2 _ ho)))).1⟩, h.run O S2 (s2 _ ho) (s2 _ hc) v2 fun v f3 h3 k3 s3 S3 v3 => q v f3 h3 k3 (fun p hp => s3 p (s2 p (s1 p hp))) S3 v3⟩) (star1 h1) (star0 h2)
end
theorem FnT.lam {qual name : Str} {params : Arguments} {body : Expr} {scope : Scope} {pm ctv : Value} {cc : Addr} {oc : Obj} {cvs : Array Value} {t : Tok} {fd : FuncData} {as : List Rv} {r : Rv} {d u : Nat} (pn : List Str) (hfd : fd = kla_fn name qual params body scope [] pm (.ref cc) ctv) (hd : oc.data = .fields cvs) (hv : cvs[1]? = some (.str qual t))
    (hb : ∀ vs : List Value, vs.length = as.length → bindArgs (kla_fn name qual params body scope [] pm (.ref cc) ctv) ⟨vs, []⟩ = pure (pn.zip vs)) (hn : pn.Nodup) (hkd : ∀ x ∈ pn, scope.names.lookup x = some .local) (hdb : ∀ x ∈ pn, (x == ("__debug__" : Str)) = false) (hfree : as.all Rv.free = true) (hr : r.free = true)
    (h : ∀ k : Fc, (fcOf k qual scope k.a (.ref cc)).Ok d u → EvT (fcOf k qual scope k.a (.ref cc)) (fcOf k qual scope k.a (.ref cc)).env (argG pn as) body r)
    (hco : scope.isCoroutine = false) (hgen : scope.isGenerator = false) (hk : scope.kind = .function) (hcell : ∀ x ∈ scope.names, x.2 ≠ .cell) : FnT (d + 1) (u + 3) fd cc oc as r := by
  constructor
  intro c env Γ xt mu fz m mm s Q E f vs O S ho hc hvs q
  subst hfd
  obtain ⟨tb, T, N⟩ := S.N
  have inN : ∀ p ∈ fz, p ∈ xt ++ (mu ++ (tb ++ fz)) := fun p hp => by simp [hp]
  have hpz : ∀ {y : Str × Value}, y ∈ pn.zip vs → y.1 ∈ pn := fun {y} hy => (List.of_mem_zip (a := y.1) (b := y.2) hy).1
  have hfree := List.all_eq_true.mp hfree
  refine wpAny_call (kla_code (env := c.env) (outer := c.outer) O.B S.F O.X N O.T rfl rfl O.hk (inN _ ho) (codeRec_news N (inN _ hc) hd hv) (by have := O.dp; show c.dp < _; lia) (hb vs hvs.len) (fun y hy => hkd _ (hpz hy)) ?_ hco hgen hk hcell)
  intro g L' h₁ FG F' N' B' X' T'
  have Z := h { c with L := L', outer := c.env :: c.outer, dp := c.dp + 1, un := c.un + 3, g := g, A₀ := c.A, a := f } ⟨X', T', B', hk, by have := O.dp; show c.dp + 1 + d < _; lia, by have := O.un; show c.un + 3 + u < _; lia⟩
  refine Z.run (xt ++ mu) [] fz _ _ { s with heap := h₁, toks := s.toks + (pn.zip vs).length } _ _ ⟨F', ⟨tb, T, by rw [List.append_assoc]; exact N'⟩, by rw [List.append_nil]; exact S.nd, by rw [List.append_nil]; exact S.of, by rw [List.append_assoc]; exact S.ot, .inl ⟨rfl, rfl⟩, fun y ry e => ?_, fun y b h1 h2 => (by cases h2), fun y z ay az ly lz v ey ez ny nz => ?_⟩ ?_
  · obtain ⟨v, h1, h2⟩ := args_told (mu := []) hn (hvs.anyMu hfree) e
    have hy : y ∈ pn := by
      have := List.mem_reverse.mp (mem_lookup h1)
      exact (List.of_mem_zip this).1
    exact ⟨v, .loc (hkd y hy) (hdb y hy) h1, h2⟩
  · have := argG_free hfree ey
    cases this
  · intro v fz' h' tk hs S' hv
    obtain ⟨tb', T1, N1⟩ := S'.N
    exact leaveK_ S'.F N1 fun F2 N2 => q v fz' h' tk hs (S.leave S' hs F2 T1 N2) (hv.free hr)
section
variable {c : Fc} {Γ : Gm} {d u : Nat} {cc : Addr} {params : Arguments} {body : Expr} {scope : Scope} {pos : Pos}
noncomputable def Fc.setq (c : Fc) (q : List Value → Prop) : Fc := { c with q := q }
theorem Lam_N (O : c.Ok d u) (hC : CodeHd c.g cc 242) (hcc : c.ccd = .ref cc) (hd : defaultsOf params c.env = ([], [])) (hcl : closureFor scope c.env = pure []) {l : List Value} (htr : TriplesOk l) (hnf : codeAmong pos l = none)
    {xt mu fz : Led} {m : Str → Option Value} {s : Shared} {Q : Value → Shared → Prop} {E : Value → Shared → Prop} (S : Es (c.setq fun x => x = l) c.env Γ xt mu fz m m s.heap)
    (q : ∀ f c' oc vs t pm ctv fz' h' tk, (∀ p ∈ fz, p ∈ fz') → Es (c.setq fun x => x = l ++ [rawInt pos.line, rawInt pos.col, .ref c']) c.env Γ xt mu fz' m m h' → (f, fnO (kla_fn "<lambda>" (c.env.qual ++ "<lambda>") params body scope [] pm (.ref c') ctv)) ∈ fz' → (c', oc) ∈ fz' → oc.data = .fields vs → vs[1]? = some (.str (c.env.qual ++ "<lambda>") t) → Q (.ref f) { s with heap := h', toks := tk }) :
    wpAny c.M c.A (eval (.Lambda params body scope pos) c.env) Q E s := by
  obtain ⟨tb, ⟨p1, p2, p3, p4, rfl, t1, t2, t3, t4⟩, N⟩ := S.N
  have e4 : p4.toList = l := t4
  have e : ∀ o, xt ++ (mu ++ ([(208, tabObj p1), (89, tabObj p2), (72, tabObj p3), (242, o)] ++ fz)) = (xt ++ (mu ++ [(208, tabObj p1), (89, tabObj p2), (72, tabObj p3)])) ++ (242, o) :: fz := fun o => by simp
  have N0 := N
  rw [e] at N
  have hx : ∀ p ∈ xt ++ (mu ++ fz), p.1 ≠ 242 := fun p hp h => S.ot p hp (h ▸ (by simp [tabs]))
  have U : UpdF 242 (tabObj p4) ((xt ++ (mu ++ [(208, tabObj p1), (89, tabObj p2), (72, tabObj p3)])) ++ (242, tabObj p4) :: fz) (fun o' => (xt ++ (mu ++ [(208, tabObj p1), (89, tabObj p2), (72, tabObj p3)])) ++ (242, o') :: fz) := UpdF.of (fun p hp => hx p (by simp [hp])) (fun p hp => by
      rcases List.mem_append.mp hp with hp | hp
      · exact hx p (by simp [hp])
      · rcases List.mem_append.mp hp with hp | hp
        · exact hx p (by simp [hp])
        · simp only [List.mem_cons, List.not_mem_nil, or_false] at hp
          rcases hp with rfl | rfl | rfl
          · exact (by decide : (208 : Nat) ≠ 242)
          · exact (by decide : (89 : Nat) ≠ 242)
          · exact (by decide : (72 : Nat) ≠ 242))
  refine kla_eval hd (kla_nest S.F N O.T hC hcc U (by rw [e4]; exact htr) (by rw [e4]; exact hnf) hcl fun f c' oc vs t ctv h' tk F' N' d1 d2 l1 l2 => ?_)
  rw [← e] at N'
  have l1' : ∀ p ∈ xt ++ (mu ++ ([(208, tabObj p1), (89, tabObj p2), (72, tabObj p3), (242, tabObj p4)] ++ fz)), p.1 < c' := fun p hp => l1 p (by rw [← e]; exact hp)
  have key : ∀ {a : Addr}, (∀ q ∈ xt ++ (mu ++ ([(208, tabObj p1), (89, tabObj p2), (72, tabObj p3), (242, tabObj p4)] ++ fz)), q.1 < a) → a ∉ (xt ++ mu).map (·.1) ∧ a ∉ tabs := fun {a} hlt => ⟨fun hm => by
      obtain ⟨q, hq, e⟩ := List.mem_map.mp hm
      have := hlt q (by rcases List.mem_append.mp hq with h | h <;> simp [h])
      exact Nat.lt_irrefl _ (e ▸ this), fun hm => by
      obtain ⟨o', ho'⟩ := Tb.mem (q := fun x => x = l) ⟨p1, p2, p3, p4, rfl, t1, t2, t3, t4⟩ _ hm
      exact Nat.lt_irrefl _ (hlt (a, o') (List.mem_append_right _ (List.mem_append_right _ (List.mem_append_left _ ho'))))⟩
  have kc := key l1'
  have kf := key (a := f) fun q hq => Nat.lt_trans (l1' q hq) l2
  have up : ∀ p ∈ fz, p ∈ (f, fnO (kla_fn "<lambda>" (c.env.qual ++ "<lambda>") params body scope [] ((c.mg "__name__").getD .none) (.ref c') ctv)) :: (c', oc) :: fz := fun p hp => .tail _ (.tail _ hp)
  refine q f c' oc vs t _ ctv _ h' tk up ⟨F', ⟨[(208, tabObj p1), (89, tabObj p2), (72, tabObj p3), (242, tabObj (p4 ++ #[rawInt pos.line, rawInt pos.col, .ref c']))], ⟨p1, p2, p3, _, rfl, t1, t2, t3, by show (p4 ++ _).toList = _; rw [Array.toList_append, e4]⟩, fun p hp => N' p ?_⟩, S.nd, fun p hp => ?_, fun p hp => ?_, S.hn, fun x r ex => ?_, S.ce, S.sep⟩ (.head _) (.tail _ (.head _)) d1 d2
  · simp only [List.mem_append, List.mem_cons] at hp ⊢
    rcases hp with h | h | h | h | h | h
    · simp [h]
    · simp [h]
    · exact .inr (.inr (.inr (.inr (.inl h))))
    · exact .inl h
    · exact .inr (.inl h)
    · simp [h]
  · rcases List.mem_cons.mp hp with rfl | hp
    · exact kf.1
    · rcases List.mem_cons.mp hp with rfl | hp
      · exact kc.1
      · exact S.of p hp
  · rcases List.mem_append.mp hp with hp | hp
    · exact S.ot p (List.mem_append_left _ hp)
    · rcases List.mem_append.mp hp with hp | hp
      · exact S.ot p (List.mem_append_right _ (List.mem_append_left _ hp))
      · rcases List.mem_cons.mp hp with rfl | hp
        · exact kf.2
        · rcases List.mem_cons.mp hp with rfl | hp
          · exact kc.2
          · exact S.ot p (List.mem_append_right _ (List.mem_append_right _ hp))
  · obtain ⟨v, h1, h2⟩ := S.lc x r ex
    exact ⟨v, h1, h2.mono up⟩
end
end Mine
end
section
open PySem PySem.W PyProof.Rows Builtin
set_option maxRecDepth 100000
set_option Elab.async false
namespace Mine
noncomputable abbrev asc : Str := Str.ofString "ascii"
section
variable {a b c d : UInt8} {t u : Tok}
theorem run_asc (ha : a.toNat < 128) (hb : b.toNat < 128) (hc : c.toNat < 128) (hd : d.toNat < 128) (id : String) :
    _codecs.runDecoder id _codecs.asciiDecoder none true #[a, b, c, d] 0 [] = pure (#[a.toNat, b.toNat, c.toNat, d.toNat], 4) := by
  unfold _codecs.runDecoder
  simp [Std.Legacy.Range.forIn_eq_forIn_range', List.range', _codecs.asciiDecoder, _codecs.Found.char, sizeLine_eq, ha, hb, hc, hd]
theorem road_asc {id : String} {x : Array UInt8} : _codecs.decodeRoad id x asc none [] = (_codecs.runDecoder id _codecs.asciiDecoder none true x 0 [] >>= fun r => mkStr ⟨r.1⟩) := by kernel_rfl
theorem new_tree : «str.__new__» ⟨[.type "str", .bytes #[a, b, c, d] t, .str asc u], []⟩ = (mkStr asc >>= fun e => (do rule "str.__new__.decode-bytes"; call (.builtin "bytes.decode") [.bytes #[a, b, c, d] t] [(Str.ofString "encoding", e)]) >>= fun made => ret made >>= fun r => pure r) := by kernel_rfl
theorem dec_tree : «bytes.decode» ⟨[.bytes #[a, b, c, d] t], [(Str.ofString "encoding", .str asc u)]⟩ = (mkStr (Str.ofString "utf-8") >>= fun _ => mkStr asc >>= fun e => mkStr (Str.ofString "bytes.decode") >>= fun d' =>
    call (.builtin "_codecs.decode.text") [.bytes #[a, b, c, d] t, e, .none, d'] >>= fun v => ret v) := by kernel_rfl
theorem typeCall_str_2 (x y : Value) : checkTypeCall "str" ⟨[x, y], []⟩ = pure () := by kernel_rfl
theorem newCall_str_2 (x y : Value) : checkBuiltinCall "str.__new__" ⟨[.type "str", x, y], []⟩ = pure () := by kernel_rfl
theorem args_dec_kw (x v : Value) : argsOk "bytes.decode" ⟨[x], [(Str.ofString "encoding", v)]⟩ := by
  unfold argsOk; kernel_rfl
theorem text_meets {x : Array UInt8} {X d : Str} {n : Nat} {t t1 t2 : Tok} (hd : ∀ id, _codecs.runDecoder id _codecs.asciiDecoder none true x 0 [] = pure (X.cps, n)) :
    Meets («_codecs.decode.text» ⟨[.bytes x t, .str asc t1, .none, .str d t2], []⟩) (fun _ R s => X.length ≤ sizeLine ∧ R (.ok (.ret (.str X s.toks))) { s with toks := s.toks + 1 }) := by
  refine .of_wp fun prog w A R s hS => ?_
  obtain ⟨hsz, h⟩ := hS
  show wpAny _ _ (Bytes.bytesLike _ (.bytes x t) >>= fun r => _) _ _ s
  refine wpAny_bind (wpAny_of_eq KBd.like_eq ?_)
  refine wpAny_bind (wpAny_of_eq KBd.held_eq ?_)
  show wpAny _ _ (_codecs.decodeRoad _ x asc none [] >>= fun v => _) _ _ s
  rw [road_asc, hd]
  refine wpAny_bind (wpAny_bind (wpAny_pure ?_))
  exact wpAny_mkStr (wpAny_pure ⟨_, rfl, h⟩) hsz
noncomputable abbrev sp4 (X : Str) : PySem.Spec := fun _ R s => X.length ≤ sizeLine ∧ ∀ t' k, R (.ok (.ret (.str X t'))) { s with toks := k }
theorem dec_meets (ha : a.toNat < 128) (hb : b.toNat < 128) (hc : c.toNat < 128) (hd : d.toNat < 128) : Meets («bytes.decode» ⟨[.bytes #[a, b, c, d] t], [(Str.ofString "encoding", .str asc u)]⟩) (sp4 (S [a.toNat, b.toNat, c.toNat, d.toNat])) := by
  refine .of_wp fun prog w A R s hS => ?_
  obtain ⟨hsz, h⟩ := hS
  rw [dec_tree]
  refine wpAny_bind (wpAny_mkStr ?_ (by decide))
  refine wpAny_bind (wpAny_mkStr ?_ (by decide))
  refine wpAny_bind (wpAny_mkStr ?_ (by decide))
  exact wpAny_bind (call_function_meets KBd.kind_text KBd.plain_text KBd.entry_text (KBd.args_text _ _ _ _) (text_meets (X := S [a.toNat, b.toNat, c.toNat, d.toNat]) (run_asc ha hb hc hd)) ⟨hsz, wpAny_pure ⟨_, rfl, h _ _⟩⟩)
theorem new_meets (ha : a.toNat < 128) (hb : b.toNat < 128) (hc : c.toNat < 128) (hd : d.toNat < 128) : Meets («str.__new__» ⟨[.type "str", .bytes #[a, b, c, d] t, .str asc u], []⟩) (sp4 (S [a.toNat, b.toNat, c.toNat, d.toNat])) := by
  refine .of_wp fun prog w A R s hS => ?_
  obtain ⟨hsz, h⟩ := hS
  rw [new_tree]
  refine wpAny_bind (wpAny_mkStr ?_ (by decide))
  refine wpAny_bind (wpAny_bind (wpAny_rule ?_))
  refine wpAny_call (codeAny_call_builtin FB.slot_bytes_decode.plain FB.entry_bytes_decode (FB.slot_bytes_decode.check _ _ _ _ _ _ _ _ (typeIs_bytes _ _ _) (args_dec_kw _ _) (dec_meets ha hb hc hd _ _ _ (wants _ _) _ ⟨hsz, fun t' k => ?_⟩)))
  exact wpAny_bind (wpAny_pure (wpAny_pure ⟨_, rfl, h _ _⟩))
theorem str_ascii {prog : Program} {w : World} {A : Around} {E : Value → Shared → Prop} {s : Shared} {Q : Value → Shared → Prop} (ha : a.toNat < 128) (hb : b.toNat < 128) (hc : c.toNat < 128) (hd : d.toNat < 128)
    (h : ∀ t' k, Q (.str (S [a.toNat, b.toNat, c.toNat, d.toNat]) t') { s with toks := k }) : wpAny (model prog w) A (call (.type "str") [.bytes #[a, b, c, d] t, .str asc u]) Q E s :=
  callType_new F.called_str (by decide) (typeCall_str_2 _ _) (newCall_str_2 _ _) (fun obj => F.args_object_init_3 obj _ _) F.entry_str_new
    (new_meets ha hb hc hd) ⟨by rw [S_len, sizeLine_eq]; exact Nat.le_of_ble_eq_true rfl, fun t' k => ⟨typeIs_str _ _ _, h t' k⟩⟩
end
theorem arr4 {arr : Array UInt8} {v : List Nat} (hb : PySem.W.KBw.bInts arr = v.map Int.ofNat) (hl : v.length = 4) : ∃ a b c d : UInt8, arr = #[a, b, c, d] ∧ v = [a.toNat, b.toNat, c.toNat, d.toNat] := by
  unfold PySem.W.KBw.bInts at hb
  have hlen := congrArg List.length hb
  obtain ⟨l, rfl⟩ : ∃ l : List UInt8, arr = l.toArray := ⟨arr.toList, by simp⟩
  have hl4 : l.length = 4 := by simpa [hl] using hlen
  rcases l with _ | ⟨a, _ | ⟨b, _ | ⟨c, _ | ⟨d, _ | ⟨e, l⟩⟩⟩⟩⟩
  · simp at hl4
  · simp at hl4
  · simp at hl4
  · simp at hl4
  · rcases v with _ | ⟨p, _ | ⟨q, _ | ⟨r, _ | ⟨s, _ | ⟨e, l⟩⟩⟩⟩⟩
    · simp at hl
    · simp at hl
    · simp at hl
    · simp at hl
    · refine ⟨a, b, c, d, rfl, ?_⟩
      simp at hb
      obtain ⟨h1, h2, h3, h4⟩ := hb
      simp only [List.cons.injEq, and_true]
      lia
    · simp at hl
  · simp at hl4
theorem str_b64 {prog : Program} {w : World} {A : Around} {E : Value → Shared → Prop} {s : Shared} {Q : Value → Shared → Prop} {arr : Array UInt8} {v : List Nat} {t u : Tok} (hb : PySem.W.KBw.bInts arr = v.map Int.ofNat) (hl : v.length = 4) (ha : ∀ c ∈ v, c < 128)
    (h : ∀ t' k, Q (.str (S v) t') { s with toks := k }) : wpAny (model prog w) A (call (.type "str") [.bytes arr t, .str asc u]) Q E s := by
  obtain ⟨a, b, c, d, rfl, rfl⟩ := arr4 hb hl
  simp only [List.forall_mem_cons] at ha
  exact str_ascii ha.1 ha.2.1 ha.2.2.1 ha.2.2.2.1 h
end Mine
end
section
open PySem PySem.W PySem.W.X PyProof.Rows PyProof.Rows.LCg PySem.Calls PySem.Builtin.Str PySem.SeqAt
set_option maxRecDepth 100000
set_option Elab.async false
namespace Mine
theorem ints_take : ∀ (n : Nat) {vs : List Value} {ns : List Int}, IntsAre vs ns → IntsAre (vs.take n) (ns.take n)
  | 0, _, _, _ => .nil
  | _ + 1, _, _, .nil => .nil
  | n + 1, _, _, .cons _ _ h => .cons _ _ (ints_take n h)
theorem pick_take (vs : List Value) (n : Nat) : kms_pick vs none (some (n : Int)) = vs.take n := by
  have e1 : kms_lo none vs.length = 0 := rfl
  have e2 : kms_hi (some (n : Int)) vs.length = min n vs.length := by
    show (if (n : Int) < 0 then vs.length - (-(n : Int)).toNat else min (n : Int).toNat vs.length) = _
    rw [if_neg (by lia), Int.toNat_natCast]
  unfold kms_pick
  rw [e1, e2, Nat.sub_zero, List.drop_zero]
  exact (List.take_eq_take_min ..).symm
section
variable {c : Fc} {env : Env} {Γ Γ₁ : Gm} {d u : Nat} {value up a b : Expr} {pos p2 : Pos} {st : Stmt} {rest : List Stmt}
theorem Es.weak {xt mu fz : Led} {m mm : Str → Option Value} {h : Heap} (S : Es c env Γ xt mu fz m mm h) (hw : ∀ z r, Γ₁ z = some r → Γ z = some r) : Es c env Γ₁ xt mu fz m mm h :=
  ⟨S.F, S.N, S.nd, S.of, S.ot, S.hn, fun z r e => S.lc z r (hw z r e), S.ce, fun z z' az az' lz lz' u ez ez' => S.sep z z' az az' lz lz' u (hw _ _ ez) (hw _ _ ez')⟩
theorem Es.qT {xt mu fz : Led} {m mm : Str → Option Value} {h : Heap} {q' : List Value → Prop} (S : Es c env Γ xt mu fz m mm h) (hq : ∀ x, c.q x → q' x) : Es (c.setq q') env Γ xt mu fz m mm h := by
  obtain ⟨tb, ⟨p1, p2, p3, p4, e, t1, t2, t3, t4⟩, N⟩ := S.N
  exact ⟨S.F, ⟨tb, ⟨p1, p2, p3, p4, e, t1, t2, t3, hq _ t4⟩, N⟩, S.nd, S.of, S.ot, S.hn, S.lc, S.ce, S.sep⟩
theorem StT.go {xt mu fz : Led} {m : Str → Option Value} {s : Shared} {Q : Flow → Shared → Prop} {E : Value → Shared → Prop} (S : Es c c.env Γ xt mu fz m m s.heap) (h : StT c Γ st Γ₁ .next)
    (k : ∀ mu' fz' m' h' tk, Es c c.env Γ₁ xt mu' fz' m' m' h' → wpAny c.M c.A (execs rest c.env) Q E { s with heap := h', toks := tk }) : wpAny c.M c.A (execs (st :: rest) c.env) Q E s :=
  wpAny_execs_cons (h.run xt mu fz m s _ E S fun f m1 f1 mm1 h1 k1 s1 S1 e1 => by
    cases e1
    exact k m1 f1 mm1 h1 k1 S1)
theorem EvT.sliceG {sc : Addr} {vs : List Value} {ns : List Int} {n : Nat} {i : Int} (hv : EvT c env Γ value (.val (.ref sc))) (hj : EvT c env Γ up (.d (.int i))) (hi : i = n) (hg : c.g.IsList sc vs.toArray) (hI : IntsAre vs ns) (hz : ns.length ≤ 1000) :
    EvT c env Γ (.Subscript value (.Slice none (some up) none p2) pos) (.d (.list ((ns.take n).map .int))) := by
  subst hi
  refine ⟨fun xt mu fz m mm s Q E S q => ?_⟩
  refine Subscript_ (hv.run xt mu fz m mm s _ E S fun va f1 h1 k1 s1 S1 v1 => ?_)
  cases v1
  refine wpAny_Slice (evalPart_none_step (evalPart_some_step (hj.run xt mu f1 m mm _ _ E S1 fun vj f2 h2 k2 s2 S2 v2 => ?_)))
  obtain ⟨u, rfl⟩ := DatIn.intE v2
  obtain ⟨tb, T, N⟩ := S2.N
  have hl := hI.length
  have ht := ints_take n hI
  have hp := pick_take vs n
  obtain ⟨o, ho, hc, k9, hd⟩ := hg
  refine evalPart_none_step (kba_turn (value' := nmV) (fun _ => rfl) (kms_slice_lit (s := { s with heap := h2, toks := k2 }) S2.F N ⟨o, S2.F.keep _ _ ho, hc, k9, hd⟩ .none (.int _ _) hp (fun D h' F' N' l => ?_) (by with_unfolding_all rfl) (fun _ => rfl) ?_))
  · exact q _ _ h' _ (fun p hp => .tail _ (s2 p (s1 p hp))) (S2.alloc T F' N' l) (.list (.head _) (DatAll.ofInts ht))
  · rw [List.size_toArray, hl, sizeLine_eq]; lia
theorem EvT.addL {ns ms : List Int} (ha : EvT c env Γ a (.d (.list (ns.map .int)))) (hb : EvT c env Γ b (.d (.list (ms.map .int)))) (hz : ns.length + ms.length ≤ 1000) : EvT c env Γ (.BinOp a .Add b pos) (.d (.list ((ns ++ ms).map .int))) := by
  refine ⟨fun xt mu fz m mm s Q E S q => ?_⟩
  refine wpAny_BinOp (ha.run xt mu fz m mm s _ E S fun va f1 h1 k1 s1 S1 v1 => hb.run xt mu f1 m mm _ _ E S1 fun vb f2 h2 k2 s2 S2 v2 => ?_)
  obtain ⟨_, _, _, rfl, m1, a1⟩ := DatIn.listE v1
  obtain ⟨_, _, _, rfl, m2, a2⟩ := DatIn.listE v2
  obtain ⟨tb, T, N⟩ := S2.N
  refine kmk_add_ints (s := { s with heap := h2, toks := k2 }) S2.F N ⟨_, (S2.get (.inr (.inr (s2 _ m1)))).1, rfl, _, rfl⟩ ⟨_, (S2.get (.inr (.inr m2))).1, rfl, _, rfl⟩ (DatAll.ints a1) (DatAll.ints a2) (fun D us h' F' N' l hI => ?_) (by rw [sizeLine_eq]; lia)
  exact q _ _ h' _ (fun p hp => .tail _ (s2 p (s1 p hp))) (S2.alloc T F' N' l) (.list (.head _) (DatAll.ofInts hI))
end
section
variable {d u : Nat}
theorem CallT.strB {arr : Array UInt8} {v : List Nat} (hb : KBw.bInts arr = v.map Int.ofNat) (hl : v.length = 4) (ha : ∀ c ∈ v, c < 128) : CallT d u (.type "str") [.d (.bytes arr), .d (.str asc)] (.d (.str (S v))) := by
  constructor
  intro c env Γ xt mu fz m mm s Q E vs O S' hvs q
  obtain ⟨_, _, rfl, h1, h2⟩ := hvs.inv2
  obtain ⟨t1, rfl⟩ := DatIn.bytesE h1
  obtain ⟨t2, rfl⟩ := DatIn.strE h2
  exact str_b64 hb hl ha fun t' k => q _ fz s.heap k (fun _ h => h) S' (.str _ _)
theorem eqAt_bytes {A : Around} {s : Shared} (b : Array UInt8) (t u : Tok) : EqAt A s (.bytes b t) (.bytes b u) true := fun prog w E Q h => by
  unfold eqBool
  refine wpAny_holding ?_
  refine wpAny_ite_split (fun _ => wpAny_bind (wpAny_rule (wpAny_pure h))) (fun _ => ?_)
  exact wpAny_bind (richCompare_gives (op := .Eq) (T := "bytes") rfl rfl FB.slot_bytes_eq FB.entry_bytes_eq (FB.args_bytes_eq_2 _ _) (gives_bytes_eq b b t u) (fun x => nomatch x) (wpAny_truthy_bool (by simpa using h)))
theorem CmpT.neBy {bs : List (Array UInt8)} : CmpT .NotEq (.d (.list (bs.map .bytes))) (.d (.list (bs.map .bytes))) false := by
  constructor
  intro c env Γ xt mu fz m mm s Q E va vb hu S va' vb' q
  obtain ⟨l1, vs1, n1, rfl, m1, a1⟩ := DatIn.listE va'
  obtain ⟨l2, vs2, n2, rfl, m2, a2⟩ := DatIn.listE vb'
  have e1 := a1.length
  have e2 := a2.length
  have := RcNeAt.lists (A := c.A) (s := s) (e := fun _ => true) (⟨_, (S.get (.inr (.inr m1))).1, rfl, n1, rfl⟩ : s.heap.IsList l1 vs1.toArray) (⟨_, (S.get (.inr (.inr m2))).1, rfl, n2, rfl⟩ : s.heap.IsList l2 vs2.toArray) (by rw [List.size_toArray, List.size_toArray, e1, e2]) (by show c.un < cLine; lia) (fun j j1 j2 => by
    rw [List.size_toArray, e1, List.length_map] at j1
    obtain ⟨v1, w1, d1⟩ := a1.get (k := j) (by rw [List.length_map]; exact j1)
    obtain ⟨v2, w2, d2⟩ := a2.get (k := j) (by rw [List.length_map]; exact j1)
    rw [List.getElem_map] at d1 d2
    cases d1 with
    | bytes _ t => cases d2 with
      | bytes _ u =>
        obtain ⟨q1, e1⟩ := List.getElem?_eq_some_iff.mp w1
        obtain ⟨q2, e2⟩ := List.getElem?_eq_some_iff.mp w2
        simp only [List.getElem_toArray, e1, e2]
        exact eqAt_bytes _ t u)
  refine this PySem.Challenge.pw_kq0058_01 c.w E Q ?_
  rw [List.all_eq_true.mpr (fun _ _ => rfl)]
  exact q
theorem FoT.all {c : Fc} {t : Expr} {b : List Stmt} {Γ : Gm} (P : Rv → Prop) (h : ∀ r, P r → ∃ Γ₁ fl, AsT c Γ t r Γ₁ ∧ BdT c Γ₁ b Γ fl ∧ (fl = .next ∨ fl = .cont)) : ∀ {rs : List Rv}, (∀ r ∈ rs, P r) → FoT c t b rs Γ Γ
  | [], _ => .nil
  | r :: rs, hP => by
    obtain ⟨Γ₁, fl, h1, h2, h3⟩ := h r (hP r (.head _))
    exact .cons h1 h2 h3 (FoT.all P h fun r hr => hP r (.tail _ hr))
end
end Mine
end
section
open PySem PySem.W PySem.W.X PyProof.Rows PyProof.Rows.LCg PySem.Builtin.Str
set_option maxRecDepth 100000
set_option maxHeartbeats 4000000
set_option Elab.async false
namespace Mine
theorem alnum_all : ((List.range 128).all fun c => Txt.isalnum (S [c]) == (bc c && !(c == 42 || c == 43))) = true := by kernel_rfl
theorem alnum_c {c : Nat} (h : c < 128) : Txt.isalnum (S [c]) = (bc c && !(c == 42 || c == 43)) := by
  have := List.all_eq_true.mp alnum_all c (List.mem_range.mpr h)
  simpa using this
theorem plus_all : ((List.range 128).all fun c => Txt.contains (Str.ofString "+*") (S [c]) == (c == 42 || c == 43)) = true := by kernel_rfl
theorem plus_c {c : Nat} (h : c < 128) : Txt.contains (Str.ofString "+*") (S [c]) = (c == 42 || c == 43) := by
  have := List.all_eq_true.mp plus_all c (List.mem_range.mpr h)
  simpa using this
theorem one_ok {c : Nat} (h : c < 128) : kqdOk 8 (Dat.str (S [c])) = true := by
  simp only [kqdOk, PyData.strOk]
  simp
  lia
theorem bc_plus {c : Nat} (h : bc c = true) (h2 : ¬ (bc c && !(c == 42 || c == 43)) = true) : (c == 42 || c == 43) = true := by
  revert h h2; cases bc c <;> cases (c == 42 || c == 43) <;> simp
theorem wr_T {v : List Nat} (hasc : ∀ c ∈ v, c < 128) (hl : v.length ≤ 100) : CallT 1 67 (.ref 235) [.d (.str (S v))] (.d (.str (S (Wr v)))) := by
  have _key : (fun (_ : OpenLaw) (_ : Params → Frag) => True) PySem.Challenge.rw_kq0058_01 hd.heap_1 := by k_fill; trivial
  clear _key
  refine' CallT.def (d := 0) (u := 64) [Str.ofString "value"] (fun P => ?ho) (fun P => ?hcd) (fun s => len_one fun a => ?hb) ?hok ?hfree ?hr ?h ?hco ?hgen
  case ho => k_is
  case hcd => k_is
  case hb => exact BindsTo.of_eq rfl
  case hok => rfl
  case hfree => rfl
  case hr => rfl
  case hco => rfl
  case hgen => rfl
  case h =>
    intro k O
    refine BdT.retN (EvT.ifB (b := v.all bc) (TsW.cmp O.un (EvT.cmpr (by decide) (by rfl) Cap.nil (EvT.cname rfl rfl) (ItT.signs hasc) (by rw [List.length_map]; lia) (CoT.flt (p := fun c => !bc c) (g := fun c => .str (S [c])) ?_ ?_)) (EvT.lst (ds := []) EvTs.nil (Nat.zero_le _)) (CmpT.eqL ?_ (fun _ h => (nomatch h)) ?_)).t (fun hb => ?_) (fun hb => ?_))
    · intro c hc hb
      have h128 := hasc c hc
      refine CuT.nT rfl (fun C => ?_) (fun C => EvT.cname rfl rfl)
      have e1 : Txt.isalnum (S [c]) = false := by rw [alnum_c h128]; revert hb; cases bc c <;> simp
      have e2 : Txt.contains (Str.ofString "+*") (S [c]) = false := by rw [plus_c h128]; revert hb; unfold bc; cases (c == 42) <;> cases (c == 43) <;> simp
      exact (TsW.not (b := false) (TsW.orF (TsT.plain (EvT.meth0 O (EvT.cname rfl rfl) MethT.isalnum CallT.isalnum) (congrArg some e1) (Nat.zero_le _)) (TsW.orF (e2 ▸ TsW.t (TsW.cmp O.un (EvT.cname rfl rfl) EvT.cstr CmpT.inS)) TsW.orN)).t).t
    · intro c hc hb
      have h128 := hasc c hc
      refine CuT.nF rfl (fun C => ?_)
      by_cases q : (bc c && !(c == 42 || c == 43)) = true
      · exact (TsW.not (b := true) (TsW.orT (TsT.plain (EvT.meth0 O (EvT.cname rfl rfl) MethT.isalnum CallT.isalnum) (congrArg some ((alnum_c h128).trans q)) (Nat.zero_le _))).t).t
      · have e1 : Txt.isalnum (S [c]) = false := (alnum_c h128).trans (Bool.eq_false_iff.mpr q)
        have e2 : Txt.contains (Str.ofString "+*") (S [c]) = true := (plus_c h128).trans (bc_plus (by simpa using hb) q)
        exact (TsW.not (b := true) (TsW.orF (TsT.plain (EvT.meth0 O (EvT.cname rfl rfl) MethT.isalnum CallT.isalnum) (congrArg some e1) (Nat.zero_le _)) (TsW.orT (e2 ▸ TsW.t (TsW.cmp O.un (EvT.cname rfl rfl) EvT.cstr CmpT.inS)))).t).t
    · intro d hd
      obtain ⟨c, hc, rfl⟩ := List.mem_map.mp hd
      exact one_ok (hasc c (List.mem_filter.mp hc).1)
    · simp
    · rw [show Wr v = v from if_pos hb]; exact EvT.cname rfl rfl
    · rw [show Wr v = [34] ++ v ++ [34] from if_neg (Bool.eq_false_iff.mp hb)]
      exact EvT.bin (EvT.bin (EvT.cS [34]) (EvT.cname rfl rfl) (BinT.catS (by simp; lia))) (EvT.cS [34]) (BinT.catS (by simp; lia))
end Mine
end
section
open PySem PySem.W PySem.W.X PyProof.Rows PyProof.Rows.LCg PySem.Builtin.Str
set_option maxRecDepth 100000
set_option maxHeartbeats 4000000
set_option Elab.async false
namespace Mine
noncomputable def bvI (c : Int) : Int := if (decide (65 ≤ c) && decide (c ≤ 90)) = true then c - 65 else if (decide (97 ≤ c) && decide (c ≤ 122)) = true then c - 71 else if (decide (48 ≤ c) && decide (c ≤ 57)) = true then c + 4 else if (c == 43) = true then 62 else if (c == 47) = true then 63 else 64
theorem bv_T {c : Int} : CallT 1 67 (.ref 150) [.d (.int c)] (.d (.int (bvI c))) := by
  have _key : (fun (_ : OpenLaw) (_ : Params → Frag) => True) PySem.Challenge.rw_kq0058_01 hd.heap_1 := by k_fill; trivial
  clear _key
  refine' CallT.def (d := 0) (u := 64) [Str.ofString "c"] (fun P => ?ho) (fun P => ?hcd) (fun s => len_one fun a => BindsTo.of_eq ?hb) ?hok ?hfree ?hr ?h ?hco ?hgen
  case ho => k_is
  case hcd => k_is
  case hok => rfl
  case hfree => rfl
  case hr => rfl
  case hco => rfl
  case hgen => rfl
  case hb => rfl
  case h =>
    intro k O
    have hu := (O.le (Nat.le_refl _) (by decide : 64 ≤ 64)).un
    unfold bvI
    refine BdT.ifR (TsW.cmp2 hu EvT.cint (EvT.cname O.hk rfl) CmpT.leI EvT.cint CmpT.leI).t (fun h => by rw [if_pos h]; exact BdT.retN (EvT.bin (EvT.cname O.hk rfl) EvT.cint BinT.sub)) fun h => ?_
    rw [if_neg (by rw [h]; decide)]
    refine BdT.ifR (TsW.cmp2 hu EvT.cint (EvT.cname O.hk rfl) CmpT.leI EvT.cint CmpT.leI).t (fun h => by rw [if_pos h]; exact BdT.retN (EvT.bin (EvT.cname O.hk rfl) EvT.cint BinT.sub)) fun h => ?_
    rw [if_neg (by rw [h]; decide)]
    refine BdT.ifR (TsW.cmp2 hu EvT.cint (EvT.cname O.hk rfl) CmpT.leI EvT.cint CmpT.leI).t (fun h => by rw [if_pos h]; exact BdT.retN (EvT.bin (EvT.cname O.hk rfl) EvT.cint BinT.add)) fun h => ?_
    rw [if_neg (by rw [h]; decide)]
    refine BdT.ifR (TsW.cmp hu (EvT.cname O.hk rfl) EvT.cint CmpT.eqI).t (fun h => by rw [if_pos h]; exact BdT.retN EvT.cint) fun h => ?_
    rw [if_neg (by rw [h]; decide)]
    refine BdT.ifR (TsW.cmp hu (EvT.cname O.hk rfl) EvT.cint CmpT.eqI).t (fun h => by rw [if_pos h]; exact BdT.retN EvT.cint) fun h => ?_
    rw [if_neg (by rw [h]; decide)]
    exact BdT.retN EvT.cint
theorem abuf_T {b : Array UInt8} : CallT 1 67 (.ref 129) [.d (.bytes b)] (.d (.bytes b)) := by
  have _key : (fun (_ : OpenLaw) (_ : Params → Frag) => True) PySem.Challenge.rw_kq0058_01 hd.heap_1 := by k_fill; trivial
  clear _key
  refine' CallT.def (d := 0) (u := 64) [Str.ofString "data"] (fun P => ?ho) (fun P => ?hcd) (fun s => len_one fun a => BindsTo.of_eq ?hb) ?hok ?hfree ?hr ?h ?hco ?hgen
  case ho => k_is
  case hcd => k_is
  case hok => rfl
  case hfree => rfl
  case hr => rfl
  case hco => rfl
  case hgen => rfl
  case hb => rfl
  case h =>
    intro k O
    have hu := (O.le (Nat.le_refl _) (by decide : 64 ≤ 64)).un
    refine BdT.cons (StT.asg (EvT.callY O (EvT.bltn O (by k_is) (by kernel_rfl)) (EvTs.cons (EvT.cname O.hk rfl) EvTs.nil) CallT.typeB) (SoT.loc O.hk)) ?_
    refine BdT.cons (StT.ifF (TsW.cmp hu (EvT.cname O.hk rfl) (EvT.bltn O (by k_is) (by kernel_rfl)) (CmpT.isTn (U := "str"))).t BdT.nil) ?_
    exact BdT.ret (StT.ifT (TsW.cmp hu (EvT.cname O.hk rfl) (EvT.bltn O (by k_is) (by kernel_rfl)) CmpT.isT).t (BdT.retN (EvT.cname O.hk rfl)))
noncomputable def b8 (l : List Nat) : Array UInt8 := (l.map UInt8.ofNat).toArray
section
variable {w : World} {A : Around} {E : Value → Shared → Prop} {s : Shared}
theorem encode_runs (pr : Params) (n0 toks : Nat) (t u : Tok) : allOct.map (fun o => goT ⟨pw, pr⟩ n0 (goC ⟨pw, pr⟩ n0 20) (call (.builtin "str.encode") [.str (S (b64L o)) t, .str (Str.ofString "ascii") u]) { toks := toks, os := [] }) =
    allOct.map fun o => some (⟨toks + 1, [], [], []⟩, Value.bytes (b8 (b64L o)) toks) := by kernel_rfl
end
theorem CallT.encode {d u : Nat} {o : List Nat} (ho : o ∈ allOct) : CallT d u (.builtin "str.encode") [.d (.str (S (b64L o))), .d (.str (Str.ofString "ascii"))] (.d (.bytes (b8 (b64L o)))) := CallT.ofS2 fun {w A s Q E t t2} q =>
  go2 20 [] (List.map_inj_left.mp (encode_runs w.params s.heap.objs.size s.toks t t2) o ho) (fun _ h => nomatch h) (q _ _ fun _ _ => .bytes _ _)
theorem bfd_T {o : List Nat} (ho : o ∈ allOct) : CallT 1 67 (.ref 109) [.d (.str (S (b64L o)))] (.d (.bytes (b8 (b64L o)))) := by
  have _key : (fun (_ : OpenLaw) (_ : Params → Frag) => True) PySem.Challenge.rw_kq0058_01 hd.heap_1 := by k_fill; trivial
  clear _key
  refine' CallT.def (d := 0) (u := 64) [Str.ofString "s"] (fun P => ?ho) (fun P => ?hcd) (fun s => len_one fun a => BindsTo.of_eq ?hb) ?hok ?hfree ?hr ?h ?hco ?hgen
  case ho => k_is
  case hcd => k_is
  case hok => rfl
  case hfree => rfl
  case hr => rfl
  case hco => rfl
  case hgen => rfl
  case hb => rfl
  case h =>
    intro k O
    have hu := (O.le (Nat.le_refl _) (by decide : 64 ≤ 64)).un
    exact BdT.ret (StT.ifT (TsT.plain (EvT.callB O (EvT.bltn O (by k_is) (by kernel_rfl)) (EvTs.cons (EvT.cname O.hk rfl) (EvTs.cons (EvT.bltn O (by k_is) (by kernel_rfl)) EvTs.nil)) CallT.isStr) rfl (Nat.zero_le _)) (BdT.ret (StT.tryR (BdT.retN (EvT.meth O (EvT.cname O.hk rfl) MethT.encode (EvTs.cons EvT.cstr EvTs.nil) (CallT.encode ho))))))
end Mine
end
section
open PySem PySem.W PySem.W.X PyProof.Rows PyProof.Rows.LCg PySem.Builtin.Str
set_option maxRecDepth 100000
set_option maxHeartbeats 4000000
set_option Elab.async false
namespace Mine
structure DSt where
  q : Int
  l : Int
  p : Int
  i : Int
  o : List Int
noncomputable def dStep (s : DSt) (a : Int) : DSt :=
  if a = 61 then ⟨s.q, s.l, s.p + 1, s.i + 1, s.o⟩ else
  if s.q = 0 then ⟨1, bvI a, 0, s.i + 1, s.o⟩ else
  if s.q = 1 then ⟨2, Builtin.bitAnd (bvI a) 15, 0, s.i + 1, s.o ++ [Builtin.bitOr (s.l * 2 ^ (2 : Int).toNat) ((bvI a).fdiv (2 ^ (4 : Int).toNat))]⟩ else
  if s.q = 2 then ⟨3, Builtin.bitAnd (bvI a) 3, 0, s.i + 1, s.o ++ [Builtin.bitOr (s.l * 2 ^ (4 : Int).toNat) ((bvI a).fdiv (2 ^ (2 : Int).toNat))]⟩ else
  ⟨0, 0, 0, s.i + 1, s.o ++ [Builtin.bitOr (s.l * 2 ^ (6 : Int).toNat) (bvI a)]⟩
noncomputable def dChk (s : DSt) (a : Int) : Bool := if a = 61 then decide (2 ≤ s.q) && decide (s.q + (s.p + 1) ≤ 4) else decide (bvI a < 64) && decide (s.l.natAbs < 2 ^ 64)
noncomputable def dOk : List Int → DSt → Bool
  | [], _ => true
  | a :: l, s => dChk s a && dOk l (dStep s a)
noncomputable def dEnd (s : DSt) : Bool := !(s.q == 1) && !((s.q != 0) && decide (s.q + s.p < 4))
noncomputable def dst0 : DSt := ⟨0, 0, 0, 0, []⟩
noncomputable def dAll (o : List Nat) : Bool := dOk ((b64L o).map Int.ofNat) dst0 && dEnd (((b64L o).map Int.ofNat).foldl dStep dst0) && decide ((((b64L o).map Int.ofNat).foldl dStep dst0).o = o.map Int.ofNat)
theorem dec_all : ∀ o ∈ allOct, dAll o = true := by decide +kernel
theorem b8_ints : ∀ o ∈ allOct, KBw.bInts (b8 (b64L o)) = (b64L o).map Int.ofNat ∧ ∀ n ∈ o, n < 256 := by decide +kernel
noncomputable def dG (Γ0 : Gm) (s : DSt) : Gm := bd [(Str.ofString "i", .d (.int s.i)), (Str.ofString "pads", .d (.int s.p)), (Str.ofString "leftchar", .d (.int s.l)), (Str.ofString "quad_pos", .d (.int s.q)), (Str.ofString "out", .own (s.o.map .int))] Γ0
theorem dG_post {Γ0 Γ : Gm} {s : DSt} (h0 : Γ0 (Str.ofString "this_ch") = none) (h1 : Γ (Str.ofString "i") = some (.d (.int s.i))) (h2 : Γ (Str.ofString "pads") = some (.d (.int s.p))) (h3 : Γ (Str.ofString "leftchar") = some (.d (.int s.l))) (h4 : Γ (Str.ofString "quad_pos") = some (.d (.int s.q))) (h5 : Γ (Str.ofString "out") = some (.own (s.o.map .int)))
    (h6 : ∀ z, z ≠ Str.ofString "i" → z ≠ Str.ofString "pads" → z ≠ Str.ofString "leftchar" → z ≠ Str.ofString "quad_pos" → z ≠ Str.ofString "out" → z ≠ Str.ofString "this_ch" → Γ z = Γ0 z) : ∀ z r, dG Γ0 s z = some r → Γ z = some r := fun z r h =>
  bd_post h0 (List.forall_mem_cons.mpr ⟨h1, List.forall_mem_cons.mpr ⟨h2, List.forall_mem_cons.mpr ⟨h3, List.forall_mem_cons.mpr ⟨h4, List.forall_mem_cons.mpr ⟨h5, fun _ h => (List.not_mem_nil h).elim⟩⟩⟩⟩⟩)
    (fun hL hz => h6 z (hL _ (.head _)) (hL _ (.tail _ (.head _))) (hL _ (.tail _ (.tail _ (.head _)))) (hL _ (.tail _ (.tail _ (.tail _ (.head _))))) (hL _ (.tail _ (.tail _ (.tail _ (.tail _ (.head _)))))) hz) h
theorem dG_off {Γ0 : Gm} {s : DSt} {z : Str} (e1 : z ≠ Str.ofString "i") (e2 : z ≠ Str.ofString "pads") (e3 : z ≠ Str.ofString "leftchar") (e4 : z ≠ Str.ofString "quad_pos") (e5 : z ≠ Str.ofString "out") : dG Γ0 s z = Γ0 z :=
  (put_ne e1).trans ((put_ne e2).trans ((put_ne e3).trans ((put_ne e4).trans (put_ne e5))))
theorem TsW.andX {c : Fc} {env : Env} {Γ : Gm} {e f : Expr} {pos : Pos} {b : Bool} (h1 : TsT c env Γ e b) (h2 : b = true → TsT c env Γ f false) : TsW c env Γ (.BoolOp .And [e, f] pos) false := by
  cases b
  · exact TsW.andF h1
  · exact TsW.andT h1 (TsW.andF (h2 rfl))
noncomputable def dInv (l : List Int) (s : DSt) : Prop := dOk l s = true ∧ s.o.length + l.length ≤ 100
theorem dInv_step {l : List Int} {s : DSt} {a : Int} (h : dInv (a :: l) s) : dInv l (dStep s a) := by
  obtain ⟨h1, h2⟩ := h
  unfold dOk at h1
  rw [Bool.and_eq_true] at h1
  refine ⟨h1.2, ?_⟩
  have h3 : s.o.length + (l.length + 1) ≤ 100 := h2
  unfold dStep
  (repeat' split) <;> simp only [List.length_append, List.length_cons, List.length_nil] <;> lia
theorem a2b_T {o : List Nat} (ho : o ∈ allOct) : CallK 2 70 (.ref 158) [.d (.bytes (b8 (b64L o)))] (Str.ofString "strict_mode") (.d (.bool false)) (.d (.bytes (byteArr (o.map Int.ofNat)))) := by
  have _key : (fun (_ : OpenLaw) (_ : Params → Frag) => True) PySem.Challenge.rw_kq0058_01 hd.heap_1 := by k_fill; trivial
  clear _key
  have hA := dec_all o ho
  unfold dAll at hA
  rw [Bool.and_eq_true, Bool.and_eq_true, decide_eq_true_eq] at hA
  obtain ⟨⟨hOk, hEnd⟩, hRes⟩ := hA
  obtain ⟨hks, hlt⟩ := b8_ints o ho
  have hin : KBa.In (o.map Int.ofNat) := fun n hn => by
    obtain ⟨k, hk, rfl⟩ := List.mem_map.mp hn
    exact ⟨Int.natCast_nonneg k, Int.ofNat_lt.mpr (hlt k hk)⟩
  have hlen : ((b64L o).map Int.ofNat).length ≤ 100 := by rw [List.length_map, (b64_all o ho).1]; decide
  generalize hK : (b64L o).map Int.ofNat = ks at hOk hEnd hRes hks hlen
  refine' CallK.def (d := 1) (u := 67) [Str.ofString "data", Str.ofString "strict_mode"] (fun P => ?ho) (fun P => ?hcd) (fun s vs kv => len_one (P := fun vs => BindsTo s _ ⟨vs, [(Str.ofString "strict_mode", kv)]⟩ ([Str.ofString "data", Str.ofString "strict_mode"].zip (vs ++ [kv]))) (fun a => BindsTo.of_eq ?hb) vs) ?hok ?hfree ?hr ?h ?hco ?hgen
  case ho => k_is
  case hcd => k_is
  case hok => rfl
  case hfree => rfl
  case hr => rfl
  case hco => rfl
  case hgen => rfl
  case hb => rfl
  case h =>
    intro k O
    have hu := (O.le (Nat.le_refl _) (by decide : 64 ≤ 67)).un
    refine BdT.cons (StT.asg (EvT.callK O (EvT.glob O (by k_is)) (EvTs.cons (EvT.cname O.hk rfl) EvTs.nil) abuf_T (by intro P; k_is)) (SoT.loc O.hk)) ?_
    refine BdT.cons (StT.asg (EvT.callK O (EvT.glob O (by k_is)) (EvTs.cons (EvT.cname O.hk rfl) EvTs.nil) truth_T (by intro P; k_is)) (SoT.loc O.hk)) ?_
    refine BdT.cons (StT.newL O.hk) (BdT.cons (StT.asg EvT.cint (SoT.loc O.hk)) (BdT.cons (StT.asg EvT.cint (SoT.loc O.hk)) (BdT.cons (StT.asg EvT.cint (SoT.loc O.hk)) (BdT.cons (StT.asg EvT.cint (SoT.loc O.hk)) ?_))))
    refine BdT.cons (StT.for (EvT.cname O.hk rfl) (ItT.bytes hks) (FoT.fold dStep (dG _) dInv (fun st a l hi => ⟨dInv_step hi, ?turn⟩) ks dst0 ⟨hOk, by show 0 + ks.length ≤ 100; rw [Nat.zero_add]; exact hlen⟩)) ?rest
    case turn =>
      obtain ⟨hok, hsz⟩ := id hi
      have hck : dChk st a = true := by unfold dOk at hok; rw [Bool.and_eq_true] at hok; exact hok.1
      have hm : (st.o.map Dat.int).length ≤ 1000000 := len_map (Nat.le_trans (Nat.le_add_right _ _) (Nat.le_trans hsz (by decide)))
      unfold dChk at hck
      by_cases h61 : a = 61
      · rw [if_pos h61, Bool.and_eq_true] at hck
        have hc := hck
        rw [show dStep st a = ⟨st.q, st.l, st.p + 1, st.i + 1, st.o⟩ from if_pos h61]
        exact ⟨_, .cont, AsT.name (SoT.loc O.hk), ExT.post (BdT.cont (StT.ifT (TsW.cmp hu (EvT.cname O.hk rfl) EvT.cint (CmpT.eqI.as (beq_iff_eq.mpr h61))).t (BdT.cons (StT.asg (EvT.bin (EvT.cname O.hk rfl) EvT.cint BinT.add) (SoT.loc O.hk)) (BdT.cont (StT.ifT (TsW.andT (TsW.cmp hu (EvT.cname O.hk rfl) EvT.cint (CmpT.geI.as hc.1)).t (TsW.andT (TsW.cmp hu (EvT.bin (EvT.cname O.hk rfl) (EvT.cname O.hk rfl) BinT.add) EvT.cint (CmpT.leI.as hc.2)).t TsW.andN)).t (BdT.cons (StT.asg (EvT.bin (EvT.cname O.hk rfl) EvT.cint BinT.add) (SoT.loc O.hk)) (BdT.cont StT.cont))))))) (dG_post rfl rfl rfl rfl rfl rfl (fun z e1 e2 e3 e4 e5 e6 => (put_off e1 (put_off e2 (put_off e6 (dG_off e1 e2 e3 e4 e5)))))), .inr rfl⟩
      · rw [if_neg h61, Bool.and_eq_true, decide_eq_true_eq, decide_eq_true_eq] at hck
        have hv : decide (64 ≤ bvI a) = false := decide_eq_false (Int.not_le.mpr hck.1)
        have hl := hck.2
        by_cases h0 : st.q = 0
        · rw [show dStep st a = ⟨1, bvI a, 0, st.i + 1, st.o⟩ by unfold dStep; rw [if_neg h61, if_pos h0]]
          exact ⟨_, .next, AsT.name (SoT.loc O.hk), ExT.post (BdT.cons (StT.ifF (TsW.cmp hu (EvT.cname O.hk rfl) EvT.cint (CmpT.eqI.as (beq_eq_false_iff_ne.mpr h61))).t BdT.nil) (BdT.cons (StT.asg (EvT.callK O (EvT.glob O (by k_is)) (EvTs.cons (EvT.cname O.hk rfl) EvTs.nil) bv_T (by intro P; k_is)) (SoT.loc O.hk)) (BdT.cons (StT.ifF (TsW.cmp hu (EvT.cname O.hk rfl) EvT.cint (CmpT.geI.as hv)).t BdT.nil) (BdT.cons (StT.ifF (TsW.andX (TsT.plain (EvT.cname O.hk rfl) rfl (Nat.zero_le _)) (fun _ => TsT.plain (EvT.cname O.hk rfl) rfl (Nat.zero_le _))).t BdT.nil) (BdT.cons (StT.asg EvT.cint (SoT.loc O.hk)) (BdT.cons (StT.ifT (TsW.cmp hu (EvT.cname O.hk rfl) EvT.cint (CmpT.eqI.as (beq_iff_eq.mpr h0))).t (BdT.cons (StT.asg EvT.cint (SoT.loc O.hk)) (BdT.cons (StT.asg (EvT.cname O.hk rfl) (SoT.loc O.hk)) BdT.nil))) (BdT.cons (StT.asg (EvT.bin (EvT.cname O.hk rfl) EvT.cint BinT.add) (SoT.loc O.hk)) BdT.nil))))))) (dG_post rfl rfl rfl rfl rfl rfl (fun z e1 e2 e3 e4 e5 e6 => (put_off e1 (put_off e3 (put_off e4 (put_off e2 (put_off e6 (put_off e6 (dG_off e1 e2 e3 e4 e5))))))))), .inl rfl⟩
        · by_cases h1 : st.q = 1
          · rw [show dStep st a = ⟨2, Builtin.bitAnd (bvI a) 15, 0, st.i + 1, st.o ++ [Builtin.bitOr (st.l * 2 ^ (2 : Int).toNat) ((bvI a).fdiv (2 ^ (4 : Int).toNat))]⟩ by unfold dStep; rw [if_neg h61, if_neg h0, if_pos h1]]
            exact ⟨_, .next, AsT.name (SoT.loc O.hk), ExT.post (BdT.cons (StT.ifF (TsW.cmp hu (EvT.cname O.hk rfl) EvT.cint (CmpT.eqI.as (beq_eq_false_iff_ne.mpr h61))).t BdT.nil) (BdT.cons (StT.asg (EvT.callK O (EvT.glob O (by k_is)) (EvTs.cons (EvT.cname O.hk rfl) EvTs.nil) bv_T (by intro P; k_is)) (SoT.loc O.hk)) (BdT.cons (StT.ifF (TsW.cmp hu (EvT.cname O.hk rfl) EvT.cint (CmpT.geI.as hv)).t BdT.nil) (BdT.cons (StT.ifF (TsW.andX (TsT.plain (EvT.cname O.hk rfl) rfl (Nat.zero_le _)) (fun _ => TsT.plain (EvT.cname O.hk rfl) rfl (Nat.zero_le _))).t BdT.nil) (BdT.cons (StT.asg EvT.cint (SoT.loc O.hk)) (BdT.cons (StT.ifF (TsW.cmp hu (EvT.cname O.hk rfl) EvT.cint (CmpT.eqI.as (beq_eq_false_iff_ne.mpr h0))).t (BdT.cons (StT.ifT (TsW.cmp hu (EvT.cname O.hk rfl) EvT.cint (CmpT.eqI.as (beq_iff_eq.mpr h1))).t (BdT.cons (StT.asg EvT.cint (SoT.loc O.hk)) (BdT.cons (StT.app O.hk rfl (EvT.bin (EvT.bin (EvT.cname O.hk rfl) EvT.cint (BinT.shl (by decide) (by decide) hl)) (EvT.bin (EvT.cname O.hk rfl) EvT.cint (BinT.shr (by decide))) BinT.or) hm) (BdT.cons (StT.asg (EvT.bin (EvT.cname O.hk rfl) EvT.cint BinT.and) (SoT.loc O.hk)) BdT.nil)))) BdT.nil)) (BdT.cons (StT.asg (EvT.bin (EvT.cname O.hk rfl) EvT.cint BinT.add) (SoT.loc O.hk)) BdT.nil))))))) (dG_post rfl rfl rfl rfl rfl (congrArg (fun l => some (Rv.own l)) int_snoc.symm) (fun z e1 e2 e3 e4 e5 e6 => (put_off e1 (put_off e3 (put_off e5 (put_off e4 (put_off e2 (put_off e6 (put_off e6 (dG_off e1 e2 e3 e4 e5)))))))))), .inl rfl⟩
          · by_cases h2 : st.q = 2
            · rw [show dStep st a = ⟨3, Builtin.bitAnd (bvI a) 3, 0, st.i + 1, st.o ++ [Builtin.bitOr (st.l * 2 ^ (4 : Int).toNat) ((bvI a).fdiv (2 ^ (2 : Int).toNat))]⟩ by unfold dStep; rw [if_neg h61, if_neg h0, if_neg h1, if_pos h2]]
              exact ⟨_, .next, AsT.name (SoT.loc O.hk), ExT.post (BdT.cons (StT.ifF (TsW.cmp hu (EvT.cname O.hk rfl) EvT.cint (CmpT.eqI.as (beq_eq_false_iff_ne.mpr h61))).t BdT.nil) (BdT.cons (StT.asg (EvT.callK O (EvT.glob O (by k_is)) (EvTs.cons (EvT.cname O.hk rfl) EvTs.nil) bv_T (by intro P; k_is)) (SoT.loc O.hk)) (BdT.cons (StT.ifF (TsW.cmp hu (EvT.cname O.hk rfl) EvT.cint (CmpT.geI.as hv)).t BdT.nil) (BdT.cons (StT.ifF (TsW.andX (TsT.plain (EvT.cname O.hk rfl) rfl (Nat.zero_le _)) (fun _ => TsT.plain (EvT.cname O.hk rfl) rfl (Nat.zero_le _))).t BdT.nil) (BdT.cons (StT.asg EvT.cint (SoT.loc O.hk)) (BdT.cons (StT.ifF (TsW.cmp hu (EvT.cname O.hk rfl) EvT.cint (CmpT.eqI.as (beq_eq_false_iff_ne.mpr h0))).t (BdT.cons (StT.ifF (TsW.cmp hu (EvT.cname O.hk rfl) EvT.cint (CmpT.eqI.as (beq_eq_false_iff_ne.mpr h1))).t (BdT.cons (StT.ifT (TsW.cmp hu (EvT.cname O.hk rfl) EvT.cint (CmpT.eqI.as (beq_iff_eq.mpr h2))).t (BdT.cons (StT.asg EvT.cint (SoT.loc O.hk)) (BdT.cons (StT.app O.hk rfl (EvT.bin (EvT.bin (EvT.cname O.hk rfl) EvT.cint (BinT.shl (by decide) (by decide) hl)) (EvT.bin (EvT.cname O.hk rfl) EvT.cint (BinT.shr (by decide))) BinT.or) hm) (BdT.cons (StT.asg (EvT.bin (EvT.cname O.hk rfl) EvT.cint BinT.and) (SoT.loc O.hk)) BdT.nil)))) BdT.nil)) BdT.nil)) (BdT.cons (StT.asg (EvT.bin (EvT.cname O.hk rfl) EvT.cint BinT.add) (SoT.loc O.hk)) BdT.nil))))))) (dG_post rfl rfl rfl rfl rfl (congrArg (fun l => some (Rv.own l)) int_snoc.symm) (fun z e1 e2 e3 e4 e5 e6 => (put_off e1 (put_off e3 (put_off e5 (put_off e4 (put_off e2 (put_off e6 (put_off e6 (dG_off e1 e2 e3 e4 e5)))))))))), .inl rfl⟩
            · rw [show dStep st a = ⟨0, 0, 0, st.i + 1, st.o ++ [Builtin.bitOr (st.l * 2 ^ (6 : Int).toNat) (bvI a)]⟩ by unfold dStep; rw [if_neg h61, if_neg h0, if_neg h1, if_neg h2]]
              exact ⟨_, .next, AsT.name (SoT.loc O.hk), ExT.post (BdT.cons (StT.ifF (TsW.cmp hu (EvT.cname O.hk rfl) EvT.cint (CmpT.eqI.as (beq_eq_false_iff_ne.mpr h61))).t BdT.nil) (BdT.cons (StT.asg (EvT.callK O (EvT.glob O (by k_is)) (EvTs.cons (EvT.cname O.hk rfl) EvTs.nil) bv_T (by intro P; k_is)) (SoT.loc O.hk)) (BdT.cons (StT.ifF (TsW.cmp hu (EvT.cname O.hk rfl) EvT.cint (CmpT.geI.as hv)).t BdT.nil) (BdT.cons (StT.ifF (TsW.andX (TsT.plain (EvT.cname O.hk rfl) rfl (Nat.zero_le _)) (fun _ => TsT.plain (EvT.cname O.hk rfl) rfl (Nat.zero_le _))).t BdT.nil) (BdT.cons (StT.asg EvT.cint (SoT.loc O.hk)) (BdT.cons (StT.ifF (TsW.cmp hu (EvT.cname O.hk rfl) EvT.cint (CmpT.eqI.as (beq_eq_false_iff_ne.mpr h0))).t (BdT.cons (StT.ifF (TsW.cmp hu (EvT.cname O.hk rfl) EvT.cint (CmpT.eqI.as (beq_eq_false_iff_ne.mpr h1))).t (BdT.cons (StT.ifF (TsW.cmp hu (EvT.cname O.hk rfl) EvT.cint (CmpT.eqI.as (beq_eq_false_iff_ne.mpr h2))).t (BdT.cons (StT.asg EvT.cint (SoT.loc O.hk)) (BdT.cons (StT.app O.hk rfl (EvT.bin (EvT.bin (EvT.cname O.hk rfl) EvT.cint (BinT.shl (by decide) (by decide) hl)) (EvT.cname O.hk rfl) BinT.or) hm) (BdT.cons (StT.asg EvT.cint (SoT.loc O.hk)) BdT.nil)))) BdT.nil)) BdT.nil)) (BdT.cons (StT.asg (EvT.bin (EvT.cname O.hk rfl) EvT.cint BinT.add) (SoT.loc O.hk)) BdT.nil))))))) (dG_post rfl rfl rfl rfl rfl (congrArg (fun l => some (Rv.own l)) int_snoc.symm) (fun z e1 e2 e3 e4 e5 e6 => (put_off e1 (put_off e3 (put_off e5 (put_off e4 (put_off e2 (put_off e6 (put_off e6 (dG_off e1 e2 e3 e4 e5)))))))))), .inl rfl⟩
    case rest =>
      generalize ks.foldl dStep dst0 = st at hEnd hRes ⊢
      unfold dEnd at hEnd
      rw [Bool.and_eq_true, Bool.not_eq_true', Bool.not_eq_true'] at hEnd
      refine BdT.cons (StT.ifF (TsW.cmp hu (EvT.cname O.hk rfl) EvT.cint (CmpT.eqI.as hEnd.1)).t BdT.nil) (BdT.cons (StT.ifF (TsW.andX (TsW.cmp hu (EvT.cname O.hk rfl) EvT.cint CmpT.neI).t (fun h => (TsW.cmp hu (EvT.bin (EvT.cname O.hk rfl) (EvT.cname O.hk rfl) BinT.add) EvT.cint (CmpT.ltI.as (by have := hEnd.2; rw [h] at this; exact this))).t)).t BdT.nil) (ExT.frz (y := Str.ofString "out") rfl (BdT.retN (EvT.callY O (EvT.bltn O (by k_is) (by kernel_rfl)) (EvTs.cons (EvT.as (EvT.cname O.hk rfl) (by rw [hRes])) EvTs.nil) (CallT.bytesL hin ?_)))))
      rw [List.length_map]; exact Nat.le_trans (oct_len123 o ho).2 (by decide)
theorem dec_T {o : List Nat} (ho : o ∈ allOct) : CallT 3 73 (.ref 182) [.d (.str (S (b64L o)))] (.d (.bytes (byteArr (o.map Int.ofNat)))) := by
  have _key : (fun (_ : OpenLaw) (_ : Params → Frag) => True) PySem.Challenge.rw_kq0058_01 hd.heap_1 := by k_fill; trivial
  clear _key
  refine' CallT.defD (d := 2) (u := 70) (es := [.d .none, .d (.bool false)]) [Str.ofString "s", Str.ofString "altchars", Str.ofString "validate"] [.none, .bool false] (fun _ _ => .cons .none (.cons (.bool _) .nil)) (fun P => ?ho) (fun P => ?hcd) (fun w s vs X hv => ?hb) ?hok ?hfree ?hr ?h ?hco ?hgen
  case ho => k_is
  case hcd => k_is
  case hb =>
    refine len_one (P := fun vs => BindsTo s _ ⟨vs, []⟩ ([Str.ofString "s", Str.ofString "altchars", Str.ofString "validate"].zip (vs ++ [.none, .bool false]))) (fun a => ?_) vs hv
    exact binds_K X rfl (by k_is) rfl rfl rfl
  case hok => rfl
  case hfree => rfl
  case hr => rfl
  case hco => rfl
  case hgen => rfl
  case h =>
    intro k O
    have hu := (O.le (Nat.le_refl _) (by decide : 64 ≤ 70)).un
    refine BdT.cons (StT.asg (EvT.callK (O.le (by decide) (by decide)) (EvT.glob O (by k_is)) (EvTs.cons (EvT.cname O.hk rfl) EvTs.nil) (bfd_T ho) (by intro P; k_is)) (SoT.loc O.hk)) ?_
    exact BdT.cons (StT.ifF (TsW.cmp hu (EvT.cname O.hk rfl) EvT.cnone CmpT.isNotNone).t BdT.nil) (BdT.retN (EvT.callKW O (EvT.glob O (by k_is)) (EvTs.cons (EvT.cname O.hk rfl) EvTs.nil) (EvT.cname O.hk rfl) (a2b_T ho) (by intro P; k_is)))
end Mine
end
section
open PySem PySem.W PySem.W.X PyProof.Rows PyProof.Rows.LCg PySem.Builtin PySem.Builtin.Str
set_option maxRecDepth 100000
set_option maxHeartbeats 4000000
set_option Elab.async false
namespace Mine
theorem S_q1 : Str.ofString "\"" = S [34] := by decide +kernel
theorem range_take (l : List Nat) : ∀ d : Nat, ((List.range d).map (fun k => 0 + k * 1)).filterMap (l[·]?) = l.take d := by
  intro d
  induction d with
  | zero => simp
  | succ d ih =>
    rw [List.range_succ, List.map_append, List.filterMap_append, ih, List.take_succ]
    simp [List.filterMap_cons]
    cases l[d]? <;> rfl
theorem slice_init (l : List Nat) (c : Nat) : Txt.slice (S (l ++ [c])) none (some (-1)) = S l := by
  have hi : strSliceIndices none (some (-1)) 1 (S (l ++ [c])).length = (List.range l.length).map (fun k => 0 + k * 1) := by
    rw [S_len]
    unfold strSliceIndices sliceRange
    simp only [List.length_append, List.length_cons, List.length_nil]
    simp only [show (1 : Int) > 0 by decide, if_true, show ((-1 : Int) < 0) by decide]
    have h3 : max 0 (min (-1 + ((l.length + (0 + 1) : Nat) : Int)) ((l.length + (0 + 1) : Nat) : Int)) = (l.length : Int) := by lia
    rw [h3]
    have h4 : ((if (0 : Int) < (l.length : Int) then ((l.length : Int) - 0 + 1 - 1) / 1 else 0)).toNat = l.length := by
      rw [Int.ediv_one]; split <;> lia
    rw [h4]
    apply List.map_congr_left
    intro k _
    lia
  unfold Txt.slice
  rw [hi]
  split
  · rename_i h
    simp only [List.length_map, List.length_range, S_len, Bool.and_eq_true, beq_iff_eq, List.length_append, List.length_cons, List.length_nil] at h
    lia
  · apply Str.ext'
    show (List.filterMap (fun x => ((l ++ [c]).toArray)[x]?) _).toArray = l.toArray
    simp only [List.getElem?_toArray]
    rw [range_take]
    simp
theorem starts_q (l : List Nat) : Txt.startswith (S l) (Str.ofString "\"") = (l.head? == some 34) := by
  unfold Txt.startswith
  rw [StrLaws.subAt_eq, S_q1]
  cases l with
  | nil => simp [S_len]
  | cons c r => simp [S_len]
theorem starts_no {l : List Nat} (h : ∀ c ∈ l, c ≠ 34) : Txt.startswith (S l) (Str.ofString "\"") = false := by
  rw [starts_q]
  cases l with
  | nil => rfl
  | cons c r => have := h c (.head _); simpa using this
theorem ends_yes (l : List Nat) : Txt.endswith (S (l ++ [34])) (Str.ofString "\"") = true := by
  unfold Txt.endswith
  rw [StrLaws.subAt_eq, S_q1]
  simp [S_len]
theorem ends_no {l : List Nat} (h : ∀ c ∈ l, c ≠ 34) : Txt.endswith (S l) (Str.ofString "\"") = false := by
  unfold Txt.endswith
  rw [StrLaws.subAt_eq, S_q, Bool.and_eq_false_iff]
  refine .inr ?_
  rw [beq_eq_false_iff_ne]
  intro e
  have hm : (34 : Nat) ∈ List.take (S [34]).length (List.drop ((S l).length - (S [34]).length) (S l).cps.toList) := by rw [e]; exact .head _
  exact h 34 (by simpa using List.mem_of_mem_drop (List.mem_of_mem_take hm)) rfl
theorem sq_T {v : List Nat} (hv : ∀ c ∈ v, c ≠ 34) (hl : v.length ≤ 100) : CallT 1 67 (.ref 101) [.d (.str (S (Wr v)))] (.d (.str (S v))) := by
  have _key : (fun (_ : OpenLaw) (_ : Params → Frag) => True) PySem.Challenge.rw_kq0058_01 hd.heap_1 := by k_fill; trivial
  clear _key
  refine' CallT.def (d := 0) (u := 64) [Str.ofString "text"] (fun P => ?ho) (fun P => ?hcd) (fun s => len_one fun a => BindsTo.of_eq ?hb) ?hok ?hfree ?hr ?h ?hco ?hgen
  case ho => k_is
  case hcd => k_is
  case hok => rfl
  case hfree => rfl
  case hr => rfl
  case hco => rfl
  case hgen => rfl
  case hb => rfl
  case h =>
    intro k O
    cases hb : v.all bc
    · have e : Wr v = 34 :: (v ++ [34]) := if_neg (Bool.eq_false_iff.mp hb)
      rw [e]
      have e1 : Txt.startswith (S (34 :: (v ++ [34]))) (Str.ofString "\"") = true := by rw [starts_q]; rfl
      refine BdT.cons (StT.ifT (TsT.plain (EvT.meth O (EvT.cname O.hk rfl) MethT.startswith (EvTs.cons EvT.cstr EvTs.nil) CallT.startswith) (congrArg some e1) (Nat.zero_le _)) (BdT.cons (StT.asg (EvT.tlS O.hk rfl ?_) (SoT.loc O.hk)) BdT.nil))
        (BdT.cons (StT.ifT (TsT.plain (EvT.meth O (EvT.cname O.hk rfl) MethT.endswith (EvTs.cons EvT.cstr EvTs.nil) CallT.endswith) (congrArg some (ends_yes v)) (Nat.zero_le _)) (BdT.cons (StT.asg (EvT.as (EvT.sliceNS (EvT.cname O.hk rfl) EvT.neg ?_) (congrArg (fun x => Rv.d (.str x)) (slice_init v 34))) (SoT.loc O.hk)) BdT.nil)) (BdT.retN (EvT.cname O.hk rfl)))
      · exact Nat.le_trans (len_snoc_le hl) (by decide)
      · rw [S_len]; exact Nat.le_trans (len_snoc_le hl) (by decide)
    · have e : Wr v = v := if_pos hb
      rw [e]
      exact BdT.cons (StT.ifF (TsT.plain (EvT.meth O (EvT.cname O.hk rfl) MethT.startswith (EvTs.cons EvT.cstr EvTs.nil) CallT.startswith) (congrArg some (starts_no hv)) (Nat.zero_le _)) BdT.nil)
        (BdT.cons (StT.ifF (TsT.plain (EvT.meth O (EvT.cname O.hk rfl) MethT.endswith (EvTs.cons EvT.cstr EvTs.nil) CallT.endswith) (congrArg some (ends_no hv)) (Nat.zero_le _)) BdT.nil) (BdT.retN (EvT.cname O.hk rfl)))
end Mine
end
section
open PySem PySem.W PySem.W.X PyProof.Rows PyProof.Rows.LCg PySem.Builtin.Str PySem.Sre
set_option maxRecDepth 100000
set_option maxHeartbeats 4000000
set_option Elab.async false
namespace Mine
noncomputable def joT : Pcs → List Nat
  | [] => []
  | none :: r => [46, 42] ++ joT r
  | some l :: r => l ++ joT r
noncomputable def wrapT (l : List Nat) : List Nat := 40 :: 63 :: 115 :: 58 :: (l ++ [41, 92, 90])
inductive Shp : Pcs → Prop
  | two {x y : List Nat} : x.length ≤ 10 → y.length ≤ 10 → Shp [some x, some y]
  | st {x : List Nat} : x.length ≤ 10 → Shp [none, some x]
  | en {x : List Nat} : x.length ≤ 10 → Shp [some x, none]
noncomputable def jG (inp : List El) (i : Int) (s0 a : Addr) (l : List (List Nat)) : Gm := bd [(Str.ofString "i", .d (.int i)), (Str.ofString "n", .d (.int inp.length)), (Str.ofString "res", .ownE (some a) (l.map fun x => .d (.str (S x)))), (Str.ofString "add", .bm a), (Str.ofString "inp", .lsE inp), (Str.ofString "STAR", .val (.ref s0))] noG
theorem join1 (x : List Nat) : joinL [] [x] = x := by simp [joinL]
theorem BdT.mid2 {c : Fc} {Γ Γ₂ : Gm} {st1 st2 : Stmt} {rest : List Stmt} {fl : Fl2} (P : Gm → Prop) (h1 : ∀ Γm, P Γm → BdT c Γm rest Γ₂ fl) (h2 : ∃ Γ1 Γm, P Γm ∧ StT c Γ st1 Γ1 .next ∧ StT c Γ1 st2 Γm .next) : BdT c Γ (st1 :: st2 :: rest) Γ₂ fl := by
  obtain ⟨Γ1, Γm, h, a, b⟩ := h2
  exact BdT.cons a (BdT.cons b (h1 Γm h))
theorem jo_T {ps : Pcs} (hp : Shp ps) (s0 : Addr) : CallT 1 67 (.ref 220) [.lsE (ps.map (elP (.at s0))), .val (.ref s0)] (.d (.str (S (wrapT (joT ps))))) := by
  have _key : (fun (_ : OpenLaw) (_ : Params → Frag) => True) PySem.Challenge.rw_kq0058_01 hd.heap_1 := by k_fill; trivial
  clear _key
  refine' CallT.def (d := 0) (u := 64) [Str.ofString "inp", Str.ofString "STAR"] (fun P => ?ho) (fun P => ?hcd) (fun s => len_two fun a b => BindsTo.of_eq ?hb) ?hok ?hfree ?hr ?h ?hco ?hgen
  case ho => k_is
  case hcd => k_is
  case hok => rfl
  case hfree => rfl
  case hr => rfl
  case hco => rfl
  case hgen => rfl
  case hb => rfl
  case h =>
    intro k O
    have hu := O.un
    have hl : ps.length = 2 := by rcases hp with _ | _ | _ <;> rfl
    have hl2 : ((ps.map (elP (.at s0))).length : Int) = 2 := by rw [List.length_map, hl]; rfl
    refine BdT.cons (StT.newL O.hk) (BdT.bound O.hk rfl (fun a => SoT.loc O.hk) fun a => ?_)
    refine BdT.cons (StT.pairS (EvT.tup (ds := [.int 0, .int 2]) (EvTs.cons EvT.cint (EvTs.cons (EvT.as (EvT.callB O (EvT.bltn O (by k_is) (by kernel_rfl)) (EvTs.cons (EvT.cname O.hk rfl) EvTs.nil) (CallT.lenE (by rw [List.length_map, hl]; decide))) (by rw [hl2])) EvTs.nil)) (by decide)) (SoT.loc O.hk) (SoT.loc O.hk)) ?_
    clear hl2
    refine BdT.mid2 (fun Γm => ∃ l : List (List Nat), Γm = jG (ps.map (elP (.at s0))) 2 s0 a l ∧ joinL [] l = joT ps ∧ (∀ x ∈ l, x.length ≤ 10) ∧ l.length ≤ 2) (fun Γm hP => ?fin) ?loops
    case fin =>
      obtain ⟨l, rfl, hj, hl2, hz⟩ := hP
      have h1 : (joT ps).length ≤ 1000 := by
        rw [← hj]
        have h2 := joinL_len (g := []) (k := 10) l hl2
        have h3 : l.length * (10 + ([] : List Nat).length) ≤ 20 := by show l.length * 10 ≤ 20; lia
        lia
      exact BdT.cons (StT.asrt (TsW.cmp hu (EvT.cname O.hk rfl) (EvT.cname O.hk rfl) (CmpT.eqI.as (b' := true) (by rw [List.length_map, hl]; rfl))).t) (ExT.frzA (y := Str.ofString "res") (ly := l.map tx) (by show some (Rv.ownE (some a) (l.map fun x => El.d (tx x))) = some (Rv.ownE (some a) ((l.map tx).map El.d)); rw [List.map_map]; rfl) (BdT.cons (StT.asg (EvT.as (EvT.meth O (EvT.cS []) MethT.join (EvTs.cons (EvT.cname O.hk rfl) EvTs.nil) (CallT.join (ts := l) 10 hl2 (by decide) (by lia))) (congrArg (fun l => Rv.d (.str (S l))) hj)) (SoT.loc O.hk)) (BdT.retN (EvT.fstr (JpT.cons (EvT.cS [40, 63, 115, 58]) (by decide) (JpT.cons (EvT.fv (EvT.cname O.hk rfl) (by lia)) (by simp; lia) (JpT.cons (EvT.cS [41, 92, 90]) (by simp; lia) (JpT.nil (out := [] ++ [40, 63, 115, 58] ++ joT ps ++ [41, 92, 90]) (by simp; lia)))))))))
    case loops =>
      clear hl
      cases hp with
      | @two x y hx hy => exact ⟨_, _, ⟨[x, y], rfl, by simp [joinL, joT], all_cons hx (all_one hy), by show 2 ≤ 2; decide⟩, ExT.post (StT.whl (WhT.step (TsW.andT (TsW.cmp hu (EvT.cname O.hk rfl) (EvT.cname O.hk rfl) (CmpT.ltI.as (b' := true) (by rfl))).t (TsW.andT (TsW.cmp hu (EvT.itemE (EvT.cname O.hk rfl) (EvT.cname O.hk rfl) (by decide) (by decide) rfl) (EvT.cname O.hk rfl) CmpT.isNotStrR).t TsW.andN)).t (BdT.cons (StT.bapp (x := Str.ofString "res") (d := .d (.str (S x))) O.hk rfl rfl (EvT.itemE (EvT.cname O.hk rfl) (EvT.cname O.hk rfl) (by decide) (by decide) rfl) (fun _ _ _ h => h) (Nat.le_of_ble_eq_true rfl)) (BdT.cons (StT.aug O.hk rfl EvT.cint (SoT.loc O.hk)) BdT.nil)) (.inl rfl) (WhT.step (TsW.andT (TsW.cmp hu (EvT.cname O.hk rfl) (EvT.cname O.hk rfl) (CmpT.ltI.as (b' := true) (by rfl))).t (TsW.andT (TsW.cmp hu (EvT.itemE (EvT.cname O.hk rfl) (EvT.cname O.hk rfl) (by decide) (by decide) rfl) (EvT.cname O.hk rfl) CmpT.isNotStrR).t TsW.andN)).t (BdT.cons (StT.bapp (x := Str.ofString "res") (d := .d (.str (S y))) O.hk rfl rfl (EvT.itemE (EvT.cname O.hk rfl) (EvT.cname O.hk rfl) (by decide) (by decide) rfl) (fun _ _ _ h => h) (Nat.le_of_ble_eq_true rfl)) (BdT.cons (StT.aug O.hk rfl EvT.cint (SoT.loc O.hk)) BdT.nil)) (.inl rfl) (WhT.done (n := 0) (TsW.andF (TsW.cmp hu (EvT.cname O.hk rfl) (EvT.cname O.hk rfl) (CmpT.ltI.as (b' := false) (by rfl))).t).t)))) (fun z r => bd_sub (L := [(Str.ofString "i", _), (Str.ofString "res", _), (Str.ofString "i", _), (Str.ofString "res", _), (Str.ofString "i", _), (Str.ofString "n", _), (Str.ofString "add", _), (Str.ofString "res", _), (Str.ofString "res", _), (Str.ofString "inp", _), (Str.ofString "STAR", _)]) (Γ0 := noG) (fun _ _ => rfl) (all_cons rfl (all_cons rfl (all_cons rfl (all_cons rfl (all_cons rfl (all_one rfl))))))), StT.whl (WhT.done (n := 0) (TsW.cmp hu (EvT.cname O.hk rfl) (EvT.cname O.hk rfl) (CmpT.ltI.as (b' := false) (by rfl))).t)⟩
      | @st x hx => exact ⟨_, _, ⟨[[46, 42], x], rfl, by simp [joinL, joT], all_cons (by decide) (all_one hx), by show 2 ≤ 2; decide⟩, StT.whl (WhT.done (n := 0) (TsW.andT (TsW.cmp hu (EvT.cname O.hk rfl) (EvT.cname O.hk rfl) (CmpT.ltI.as (b' := true) (by rfl))).t (TsW.andF (TsW.cmp hu (EvT.itemE (EvT.cname O.hk rfl) (EvT.cname O.hk rfl) (by decide) (by decide) rfl) (EvT.cname O.hk rfl) CmpT.isNotR).t)).t), ExT.post (StT.whl (WhT.step (TsW.cmp hu (EvT.cname O.hk rfl) (EvT.cname O.hk rfl) (CmpT.ltI.as (b' := true) (by rfl))).t (BdT.cons (StT.asrt (TsW.cmp hu (EvT.itemE (EvT.cname O.hk rfl) (EvT.cname O.hk rfl) (by decide) (by decide) rfl) (EvT.cname O.hk rfl) CmpT.isR).t) (BdT.cons (StT.aug O.hk rfl EvT.cint (SoT.loc O.hk)) (BdT.cons (StT.ifF (TsW.cmp hu (EvT.cname O.hk rfl) (EvT.cname O.hk rfl) (CmpT.eqI.as (b' := false) (by rfl))).t BdT.nil) (BdT.cons (StT.asrt (TsW.cmp hu (EvT.itemE (EvT.cname O.hk rfl) (EvT.cname O.hk rfl) (by decide) (by decide) rfl) (EvT.cname O.hk rfl) CmpT.isNotStrR).t) (BdT.cons (StT.newL O.hk) (BdT.cons (StT.whl (WhT.step (TsW.andT (TsW.cmp hu (EvT.cname O.hk rfl) (EvT.cname O.hk rfl) (CmpT.ltI.as (b' := true) (by rfl))).t (TsW.andT (TsW.cmp hu (EvT.itemE (EvT.cname O.hk rfl) (EvT.cname O.hk rfl) (by decide) (by decide) rfl) (EvT.cname O.hk rfl) CmpT.isNotStrR).t TsW.andN)).t (BdT.cons (StT.app O.hk rfl (d := tx x) (EvT.itemE (e := .d (.str (S x))) (EvT.cname O.hk rfl) (EvT.cname O.hk rfl) (by decide) (by decide) rfl) (Nat.le_of_ble_eq_true rfl)) (BdT.cons (StT.aug O.hk rfl EvT.cint (SoT.loc O.hk)) BdT.nil)) (.inl rfl) (WhT.done (n := 0) (TsW.andF (TsW.cmp hu (EvT.cname O.hk rfl) (EvT.cname O.hk rfl) (CmpT.ltI.as (b' := false) (by rfl))).t).t))) (ExT.frz (y := Str.ofString "fixed") (ly := [tx x]) rfl (BdT.cons (StT.asg (EvT.as (EvT.meth O (EvT.cS []) MethT.join (EvTs.cons (EvT.cname O.hk rfl) EvTs.nil) (CallT.join (ts := [x]) 10 (all_one hx) (by decide) (by show 1 * 12 ≤ 1000000; decide))) (congrArg (fun l => Rv.d (.str (S l))) (join1 x))) (SoT.loc O.hk)) (BdT.cons (StT.ifT (TsW.cmp hu (EvT.cname O.hk rfl) (EvT.cname O.hk rfl) (CmpT.eqI.as (b' := true) (by rfl))).t (BdT.cons (StT.bapp (x := Str.ofString "res") (d := .d (.str (S [46, 42]))) O.hk rfl rfl (EvT.cS [46, 42]) (fun _ _ _ h => h) (Nat.le_of_ble_eq_true rfl)) (BdT.cons (StT.bapp (x := Str.ofString "res") (d := .d (.str (S x))) O.hk rfl rfl (EvT.cname O.hk rfl) (fun _ _ _ h => h) (Nat.le_of_ble_eq_true rfl)) BdT.nil))) BdT.nil))))))))) (.inl rfl) (WhT.done (n := 0) (TsW.cmp hu (EvT.cname O.hk rfl) (EvT.cname O.hk rfl) (CmpT.ltI.as (b' := false) (by rfl))).t))) (fun z r => bd_sub (L := [(Str.ofString "res", _), (Str.ofString "res", _), (Str.ofString "fixed", _), (Str.ofString "fixed", _), (Str.ofString "i", _), (Str.ofString "fixed", _), (Str.ofString "fixed", _), (Str.ofString "i", _), (Str.ofString "i", _), (Str.ofString "n", _), (Str.ofString "add", _), (Str.ofString "res", _), (Str.ofString "res", _), (Str.ofString "inp", _), (Str.ofString "STAR", _)]) (Γ0 := noG) (fun _ _ => rfl) (all_cons rfl (all_cons rfl (all_cons rfl (all_cons rfl (all_cons rfl (all_one rfl)))))))⟩
      | @en x hx => exact ⟨_, _, ⟨[x, [46, 42]], rfl, by simp [joinL, joT], all_cons hx (all_one (by decide)), by show 2 ≤ 2; decide⟩, StT.whl (WhT.step (TsW.andT (TsW.cmp hu (EvT.cname O.hk rfl) (EvT.cname O.hk rfl) (CmpT.ltI.as (b' := true) (by rfl))).t (TsW.andT (TsW.cmp hu (EvT.itemE (EvT.cname O.hk rfl) (EvT.cname O.hk rfl) (by decide) (by decide) rfl) (EvT.cname O.hk rfl) CmpT.isNotStrR).t TsW.andN)).t (BdT.cons (StT.bapp (x := Str.ofString "res") (d := .d (.str (S x))) O.hk rfl rfl (EvT.itemE (EvT.cname O.hk rfl) (EvT.cname O.hk rfl) (by decide) (by decide) rfl) (fun _ _ _ h => h) (Nat.le_of_ble_eq_true rfl)) (BdT.cons (StT.aug O.hk rfl EvT.cint (SoT.loc O.hk)) BdT.nil)) (.inl rfl) (WhT.done (n := 0) (TsW.andT (TsW.cmp hu (EvT.cname O.hk rfl) (EvT.cname O.hk rfl) (CmpT.ltI.as (b' := true) (by rfl))).t (TsW.andF (TsW.cmp hu (EvT.itemE (EvT.cname O.hk rfl) (EvT.cname O.hk rfl) (by decide) (by decide) rfl) (EvT.cname O.hk rfl) CmpT.isNotR).t)).t)), ExT.post (StT.whl (WhT.brk (n := 0) (TsW.cmp hu (EvT.cname O.hk rfl) (EvT.cname O.hk rfl) (CmpT.ltI.as (b' := true) (by rfl))).t (BdT.cons (StT.asrt (TsW.cmp hu (EvT.itemE (EvT.cname O.hk rfl) (EvT.cname O.hk rfl) (by decide) (by decide) rfl) (EvT.cname O.hk rfl) CmpT.isR).t) (BdT.cons (StT.aug O.hk rfl EvT.cint (SoT.loc O.hk)) (BdT.brk (StT.ifT (TsW.cmp hu (EvT.cname O.hk rfl) (EvT.cname O.hk rfl) (CmpT.eqI.as (b' := true) (by rfl))).t (BdT.cons (StT.bapp (x := Str.ofString "res") (d := .d (.str (S [46, 42]))) O.hk rfl rfl (EvT.cS [46, 42]) (fun _ _ _ h => h) (Nat.le_of_ble_eq_true rfl)) (BdT.brk StT.brk)))))))) (fun z r => bd_sub (L := [(Str.ofString "res", _), (Str.ofString "i", _), (Str.ofString "i", _), (Str.ofString "res", _), (Str.ofString "i", _), (Str.ofString "n", _), (Str.ofString "add", _), (Str.ofString "res", _), (Str.ofString "res", _), (Str.ofString "inp", _), (Str.ofString "STAR", _)]) (Γ0 := noG) (fun _ _ => rfl) (all_cons rfl (all_cons rfl (all_cons rfl (all_cons rfl (all_cons rfl (all_one rfl)))))))⟩
end Mine
end
section
open PySem PySem.W PySem.W.X PyProof.Rows PyProof.Rows.LCg PySem.Builtin.Str PySem.Sre
set_option maxRecDepth 100000
set_option maxHeartbeats 4000000
set_option Elab.async false
namespace Mine
theorem shp_of {pat : List Nat} {ps : Pcs} (h : (pat, ps) ∈ pats) : Shp ps := by
  simp only [pats, List.mem_cons, List.not_mem_nil, or_false, Prod.mk.injEq] at h
  rcases h with ⟨_, rfl⟩ | ⟨_, rfl⟩ | ⟨_, rfl⟩ | ⟨_, rfl⟩ | ⟨_, rfl⟩
  · exact .two (by decide) (by decide)
  · exact .st (by decide)
  · exact .en (by decide)
  · exact .two (by decide) (by decide)
  · exact .st (by decide)
theorem trl_T {pat : List Nat} {ps : Pcs} (hp : (pat, ps) ∈ pats) : CallT 3 73 (.ref 194) [.d (.str (S pat))] (.d (.str (S (wrapT (joT ps))))) := by
  have _key : (fun (_ : OpenLaw) (_ : Params → Frag) => True) PySem.Challenge.rw_kq0058_01 hd.heap_1 := by k_fill; trivial
  clear _key
  refine' CallT.def (d := 2) (u := 70) [Str.ofString "pat"] (fun P => ?ho) (fun P => ?hcd) (fun s => len_one fun a => BindsTo.of_eq ?hb) ?hok ?hfree ?hr ?h ?hco ?hgen
  case ho => k_is
  case hcd => k_is
  case hok => rfl
  case hfree => rfl
  case hr => rfl
  case hco => rfl
  case hgen => rfl
  case hb => rfl
  case h =>
    intro k O
    exact BdT.obj (EvT.bltn O (by k_is) (by kernel_rfl)) (fun a => SoT.loc O.hk) fun a => BdT.cons (StT.asg (EvT.callK O (EvT.glob O (by k_is)) (EvTs.cons (EvT.cname O.hk rfl) (EvTs.cons (EvT.cname O.hk rfl) (EvTs.cons (EvT.cS [46]) EvTs.nil))) (tr_T hp Star.obj) (by intro P; k_is)) (SoT.loc O.hk)) (BdT.retN (EvT.callK (O.le (by decide : 1 ≤ 2) (by decide : 67 ≤ 70)) (EvT.glob O (by k_is)) (EvTs.cons (EvT.cname O.hk rfl) (EvTs.cons (EvT.cname O.hk rfl) EvTs.nil)) (jo_T (shp_of hp) a) (by intro P; k_is)))
end Mine
end
section
open PySem PySem.W PySem.W.X PyProof.Rows PyProof.Rows.LCg PySem.Builtin.Str PySem.Sre
set_option maxRecDepth 100000
set_option maxHeartbeats 4000000
set_option Elab.async false
namespace Mine
noncomputable abbrev lawC (cn : Str) (cs : Scope) (w : World) (p : Program) (loose : List Str) (mean : ExcName → Option Value) (mg mb : Str → Option Value) (g : Heap) (L fa : Addr) (q : List Value → Prop) : Fc :=
  { w, p, loose, mean, mg, mb, dp := callerA.depth + 1, un := callerA.units + 3, gd := callerA.guards, cn, cs, L, a := fa, ccd := .ref 244, cl := cellsFrom (L + 1) cs.names [], outer := [], A₀ := callerA, base := g, g, q }
noncomputable def oD : Option (List Nat) → Dat
  | none => .none
  | some l => tx l
noncomputable def keyX (x : Int) : Dat := tx (keyL x)
noncomputable def pairX (x : Int) : Dat := pairD (prL x)
noncomputable def valX (x : Int) : Dat := tx (b64L (octL x))
noncomputable def pcsD (ps : Pcs) : Dat := .list (ps.map oD)
noncomputable def patQ : List (KV × Pcs) := [(([112], [97, 63]), [some [97], some [46]]), (([113], [42, 49]), [none, some [49]]), (([114], [91, 33, 97, 93, 42]), [some [91, 94, 97, 93], none]), (([115], [98, 50]), [some [98], some [50]]), (([116], [42, 91, 49, 50, 93]), [none, some [91, 49, 50, 93]])]
theorem patQ_in : ∀ q ∈ patQ, (q.1.2, q.2) ∈ pats := by decide
theorem asc_in {v : List Nat} (h : ∀ c ∈ v, c < 128) : KBa.In (v.map Int.ofNat) := fun n hn => by
  obtain ⟨c, hc, rfl⟩ := List.mem_map.mp hn
  exact ⟨Int.natCast_nonneg _, Int.ofNat_lt.mpr (Nat.lt_trans (h c hc) (by decide))⟩
theorem tup_of {r : List KV} : ∀ d ∈ r.map pairD, ∃ l, d = .tuple l := fun d hd => by
  obtain ⟨p, _, rfl⟩ := List.mem_map.mp hd
  exact ⟨_, rfl⟩
theorem tup_ofX {ms : List Int} : ∀ d ∈ ms.map pairX, ∃ l, d = .tuple l := fun d hd => by
  obtain ⟨p, _, rfl⟩ := List.mem_map.mp hd
  exact ⟨_, rfl⟩
theorem tup_ofQ : ∀ d ∈ patQ.map (fun q => pairD q.1), ∃ l, d = .tuple l := fun d hd => by
  obtain ⟨p, _, rfl⟩ := List.mem_map.mp hd
  exact ⟨_, rfl⟩
theorem oD_el (ps : Pcs) : ps.map (elP (.d .none)) = (ps.map oD).map El.d := by
  rw [List.map_map]
  exact List.map_congr_left fun o _ => by cases o <;> rfl
theorem told_ok : ∀ d ∈ patQ.map (fun q => pcsD q.2), kqdOk 8 d = true := List.all_eq_true.mp (by decide +kernel)
noncomputable def outQ : List (List Nat) := [[97, 46], [46, 42, 49], [91, 94, 97, 93, 46, 42], [98, 50], [46, 42, 91, 49, 50, 93]]
theorem outQ_len : ∀ l ∈ outQ, l.length ≤ 10 := by decide
theorem outQ_eq : patQ.map (fun q => tx (wrapT (joT q.2))) = outQ.map (fun l => tx (wrapT l)) := rfl
theorem zip_rs (ms : List Int) : List.zipWith Rv.zp ((ms.map keyX).map El.d) ((ms.map Dat.int).map El.d) = ms.map fun x => Rv.zp (.d (keyX x)) (.d (.int x)) := by
  induction ms with
  | nil => rfl
  | cons x r ih => exact congrArg (_ :: ·) ih
section
variable {w : World} {p : Program} {loose : List Str} {mean : ExcName → Option Value} {mg mb : Str → Option Value} {g : Heap} {L fa : Addr} {q : List Value → Prop} {d : DefRec} {kwd : List (Str × PySem.Expr)}
theorem law_pre (he : defOf vw (Str.ofString "law") = some (d, kwd)) (O : (lawC d.name d.scope w p loose mean mg mb g L fa q).Ok 20 200) {sc : Addr} {vs : List Value} {ns : List Int} (hg : g.IsList sc vs.toArray) (hI : IntsAre vs ns) (hz : ns.length ≤ 63)
    {mu fz : Led} {m : Str → Option Value} {s : Shared} {Q : Flow → Shared → Prop} {E : Value → Shared → Prop} (S0 : Es (lawC d.name d.scope w p loose mean mg mb g L fa q) (lawC d.name d.scope w p loose mean mg mb g L fa q).env (bd [(Str.ofString "script", .val (.ref sc))] noG) [] mu fz m m s.heap)
    (k : ∀ ms : List Int, ms ≠ [] → ms.length ≤ 14 → ∀ mu' fz' m' h' tk, Es (lawC d.name d.scope w p loose mean mg mb g L fa q) (lawC d.name d.scope w p loose mean mg mb g L fa q).env (bd [(Str.ofString "told", .d (.list (patQ.map fun q => pcsD q.2))), (Str.ofString "read", .d (.list [.list (ms.map pairX), rowD patRow])), (Str.ofString "keys", .d (.list (ms.map keyX))), (Str.ofString "numbers", .d (.list (ms.map .int)))] noG) [] mu' fz' m' m' h' →
      wpAny (lawC d.name d.scope w p loose mean mg mb g L fa q).M (lawC d.name d.scope w p loose mean mg mb g L fa q).A (execs (d.body.drop 12) (lawC d.name d.scope w p loose mean mg mb g L fa q).env) Q E { s with heap := h', toks := tk }) :
    wpAny (lawC d.name d.scope w p loose mean mg mb g L fa q).M (lawC d.name d.scope w p loose mean mg mb g L fa q).A (execs d.body (lawC d.name d.scope w p loose mean mg mb g L fa q).env) Q E s := by
  have _key : (fun (_ : OpenLaw) (_ : Params → Frag) => True) PySem.Challenge.rw_kq0058_01 hd.heap_1 := by k_fill; trivial
  clear _key
  have q' : some (d, kwd) = some _ := he.symm.trans (by rfl)
  cases q'
  clear he
  have hu := (O.le (Nat.zero_le _) (by decide : 64 ≤ 200)).un
  have O1 := O.le (by decide : 1 ≤ 20) (by decide : 67 ≤ 200)
  have O2 := O.le (by decide : 2 ≤ 20) (by decide : 70 ≤ 200)
  have O3 := O.le (by decide : 3 ≤ 20) (by decide : 73 ≤ 200)
  simp only [List.drop_succ_cons, List.drop_zero] at k
  dsimp only at O hu O1 O2 O3 S0 k ⊢
  refine StT.go S0 (StT.asg (EvT.addL (ms := [6, 1, 35, 12, 51, 22]) (EvT.sliceG (n := 8) (EvT.cname O.hk rfl) EvT.cint rfl hg hI (by lia)) (EvT.lst (ds := [.int 6, .int 1, .int 35, .int 12, .int 51, .int 22]) (EvTs.cons EvT.cint (EvTs.cons EvT.cint (EvTs.cons EvT.cint (EvTs.cons EvT.cint (EvTs.cons EvT.cint (EvTs.cons EvT.cint EvTs.nil)))))) (by decide)) (by rw [List.length_take]; show _ + 6 ≤ 1000; lia)) (SoT.loc O.hk)) fun mu1 fz1 m1 h1 tk1 S1 => ?_
  have hms : (ns.take 8 ++ [6, 1, 35, 12, 51, 22]).length ≤ 14 := by rw [List.length_append, List.length_take]; show _ + 6 ≤ 14; lia
  have hne : (ns.take 8 ++ [6, 1, 35, 12, 51, 22]) ≠ [] := by simp
  replace k := k _ hne hms
  generalize (ns.take 8 ++ [6, 1, 35, 12, 51, 22]) = ms at S1 hms hne k
  clear S0
  have hz1 : ms.length ≤ 1000000 := Nat.le_trans hms (by decide)
  refine StT.go S1 (StT.cmpr (by decide) rfl Cap.nil O.hk (EvT.cname O.hk rfl) (ItT.listM (.inl ⟨_, _, rfl⟩) (.inl ⟨_, _, rfl⟩)) (len_map hz1) (CoT.all (g := keyX) fun x _ => CuT.n0 rfl fun C => ?_)) fun mu2 fz2 m2 h2 tk2 S2 => ?_
  · exact EvT.itemL (ds := keys4.map tx) (EvT.lst (EvTs.cons (EvT.cS [97, 49]) (EvTs.cons (EvT.cS [97, 50]) (EvTs.cons (EvT.cS [98, 49]) (EvTs.cons (EvT.cS [98, 50]) EvTs.nil)))) (by decide)) (EvT.bin (EvT.cname rfl rfl) EvT.cint (BinT.fmod (by decide))) (Int.fmod_nonneg_of_pos x (by decide)) (Int.lt_trans (Int.fmod_lt_of_pos x (by decide)) (by decide)) (key_at x)
  clear S1
  have oct13 : ∀ x, 1 ≤ ((octL x).map Int.ofNat).length ∧ ((octL x).map Int.ofNat).length ≤ 3 := fun x => by
    rw [List.length_map]
    exact (show ∀ o ∈ allOct, 1 ≤ o.length ∧ o.length ≤ 3 by decide) _ (octL_mem x)
  refine StT.go S2 (StT.cmprX (by decide) rfl Cap.nil O.hk (ItX.zip (EvT.bltn O (by k_is) (by kernel_rfl)) (EvT.cname O.hk rfl) (EvT.cname O.hk rfl) rfl rfl (zip_rs ms)) (len_map hz1) (CoT.all (g := pairX) fun x _ => CuT.z0 (by decide) fun C => EvT.tup (ds := [tx (keyL x), tx (b64L (octL x))]) (EvTs.cons (EvT.cname rfl rfl) (EvTs.cons (EvT.as (EvT.callK O1 (EvT.glob O (by k_is)) (EvTs.cons (EvT.callK O1 (EvT.glob O (by k_is)) (EvTs.cons (EvT.cname rfl rfl) EvTs.nil) (oct_T (x := x)) (by intro P; k_is)) (EvTs.cons (EvT.cS [43, 47]) EvTs.nil)) (b64_T (octA_ints x) (oct13 x).1 (oct13 x).2 (octL_in x)) (by intro P; k_is)) (congrArg (fun l => Rv.d (tx l)) (b64I_all _ (octL_mem x)))) EvTs.nil)) (by show 2 ≤ 1000; decide))) fun mu3 fz3 m3 h3 tk3 S3 => ?_
  clear S2
  have hval : ∀ d ∈ ms.map valX, kqdOk 8 d = true := txs_ok fun x _ => (pr_ok x).w.asc
  have hlm : (ms.map fun x => Rv.d (pairX x)).length ≤ 1000000 := len_map hz1
  refine StT.go S3 (StT.ifF (TsW.cmp hu (EvT.cmpr (by decide) rfl Cap.nil (EvT.cname O.hk rfl) (ItT.listM (.inl ⟨_, _, rfl⟩) (.inl ⟨_, _, rfl⟩)) (len_map hz1) (CoT.all (g := valX) fun x _ => CuT.n0 rfl fun C => ?strb)) (EvT.cmpr (by decide) rfl Cap.nil (EvT.cname O.hk rfl) (ItT.listM (g := pairX) (.inr ⟨_, _, _, rfl⟩) (.inr tup_ofX)) hlm (CoT.all (g := valX) fun x _ => CuT.p0 (by decide) fun C => EvT.cname rfl rfl)) (CmpT.neL (b := true) hval hval ⟨fun _ => rfl, fun _ => rfl⟩)).t BdT.nil) fun mu4 fz4 m4 h4 tk4 S4 => ?_
  case strb => exact EvT.callY O (EvT.bltn O (by k_is) (by kernel_rfl)) (EvTs.cons (EvT.callK O3 (EvT.glob O (by k_is)) (EvTs.cons (EvT.callK O1 (EvT.glob O (by k_is)) (EvTs.cons (EvT.cname rfl rfl) EvTs.nil) (oct_T (x := x)) (by intro P; k_is)) EvTs.nil) (enc_T (octL_mem x) (octA_ints x)) (by intro P; k_is)) (EvTs.cons EvT.cstr EvTs.nil)) (CallT.strB (KBa.ints_make (asc_in (pr_ok x).w.asc)) (oct_four _ (octL_mem x)) (pr_ok x).w.asc)
  clear S3
  have hpat : ∀ p ∈ patRow, PrOk p := fun p hp => pat_ok hp
  have hrow := row_ok ms
  have hrows : ∀ r ∈ [ms.map prL, patRow], r.length ≤ 14 ∧ ∀ p ∈ r, PrOk p := all_cons ⟨by rw [List.length_map]; exact hms, hrow⟩ (all_one ⟨by decide, hpat⟩)
  have hX : (.list (ms.map pairX) : Dat) = rowD (ms.map prL) := congrArg Dat.list (List.map_map ..).symm
  refine StT.go S4 (StT.asg (EvT.lst (ds := [rowD (ms.map prL), rowD patRow]) (EvTs.cons (EvT.as (EvT.cname O.hk rfl) (congrArg Rv.d hX)) (EvTs.cons (EvT.lst (ds := patRow.map pairD) (EvTs.cons (EvT.tup (ds := [tx [112], tx [97, 63]]) (EvTs.cons (EvT.cS [112]) (EvTs.cons (EvT.cS [97, 63]) EvTs.nil)) (by decide)) (EvTs.cons (EvT.tup (ds := [tx [113], tx [42, 49]]) (EvTs.cons (EvT.cS [113]) (EvTs.cons (EvT.cS [42, 49]) EvTs.nil)) (by decide)) (EvTs.cons (EvT.tup (ds := [tx [114], tx [91, 33, 97, 93, 42]]) (EvTs.cons (EvT.cS [114]) (EvTs.cons (EvT.cS [91, 33, 97, 93, 42]) EvTs.nil)) (by decide)) (EvTs.cons (EvT.tup (ds := [tx [115], tx [98, 50]]) (EvTs.cons (EvT.cS [115]) (EvTs.cons (EvT.cS [98, 50]) EvTs.nil)) (by decide)) (EvTs.cons (EvT.tup (ds := [tx [116], tx [42, 91, 49, 50, 93]]) (EvTs.cons (EvT.cS [116]) (EvTs.cons (EvT.cS [42, 91, 49, 50, 93]) EvTs.nil)) (by decide)) EvTs.nil))))) (by decide)) EvTs.nil)) (by show 2 ≤ 1000; decide)) (SoT.loc O.hk)) fun mu5 fz5 m5 h5 tk5 S5 => ?_
  clear S4
  refine StT.go S5 (StT.asg (EvT.callK O1 (EvT.glob O (by k_is)) (EvTs.cons (EvT.cname O.hk rfl) EvTs.nil) (join_T (rows := [ms.map prL, patRow]) (rows_len _ hrows) (by show 2 ≤ 40; decide)) (by intro P; k_is)) (SoT.loc O.hk)) fun mu6 fz6 m6 h6 tk6 S6 => ?_
  clear S5
  have hhd : headT [ms.map prL, patRow] = joinL [44, 32] ([ms.map prL, patRow].map rowT) := by
    unfold headT
    rw [hStep_map _ _ (all_cons (by simpa using hne) (all_one (by decide))), List.nil_append]
  refine StT.go S6 (StT.ifF (TsW.cmp hu (EvT.cname O.hk rfl) (EvT.meth O (EvT.cS [44, 32]) MethT.join (EvTs.cons (EvT.cmpr (by decide) rfl Cap.nil (EvT.cname O.hk rfl) (ItT.listM (g := rowD) (l := [ms.map prL, patRow]) (.inl ⟨_, _, rfl⟩) (.inl ⟨_, _, rfl⟩)) (by show 2 ≤ 1000000; decide) (CoT.all (g := fun r => tx (rowT r)) fun r hr => CuT.n0 rfl fun C => ?inner)) EvTs.nil) (CallT.join (ts := [ms.map prL, patRow].map rowT) 300 ?l1 (by decide) (by show 2 * 302 ≤ 1000000; decide))) (CmpT.neS.as ?e1)).t BdT.nil) fun mu7 fz7 m7 h7 tk7 S7 => ?_
  case e1 => rw [hhd]; exact bne_self_eq_false _
  case l1 =>
    intro x hx
    obtain ⟨r, hr, rfl⟩ := List.mem_map.mp hx
    exact rowT_len (hrows r hr).1 (hrows r hr).2
  case inner =>
    obtain ⟨hr1, hr2⟩ := hrows r hr
    refine EvT.meth O (EvT.cS [59, 32]) MethT.join (EvTs.cons (EvT.as (EvT.cmpr (by decide) rfl Cap.nil (EvT.cname rfl rfl) (ItT.listM (g := pairD) (l := r) (.inr ⟨_, _, _, rfl⟩) (.inr tup_of)) (len_map (Nat.le_trans hr1 (by decide))) (CoT.all (g := fun p => tx (kvT p)) fun p hp => CuT.p0 (by decide) fun C2 => ?kv)) (congrArg (fun l => Rv.d (.list l)) (List.map_map (f := kvT) (g := tx) (l := r)).symm)) EvTs.nil) (CallT.join (g := [59, 32]) (ts := r.map kvT) 12 ?l2 (by decide) ?l3)
    case kv =>
      have e : (p.1 ++ [61]) ++ Wr p.2 = kvT p := by unfold kvT; rw [List.append_assoc]; rfl
      have hk := kv_len (hr2 p hp)
      rw [← e, List.length_append] at hk
      have hk1 := hk
      rw [List.length_append] at hk1
      exact EvT.as (EvT.bin (EvT.bin (EvT.cname rfl rfl) (EvT.cS [61]) (BinT.catS (by lia))) (EvT.callK O1 (EvT.glob O (by k_is)) (EvTs.cons (EvT.cname rfl rfl) EvTs.nil) (wr_T (hr2 p hp).w.asc (Nat.le_trans (hr2 p hp).w.v7 (by decide))) (by intro P; k_is)) (BinT.catS (by lia))) (congrArg (fun l => Rv.d (tx l)) e)
    case l2 =>
      intro x hx
      obtain ⟨p, hp, rfl⟩ := List.mem_map.mp hx
      exact kv_len (hr2 p hp)
    case l3 => rw [List.length_map]; lia
  clear S6
  obtain ⟨nh, hsi⟩ := hdr_sI hne hms
  refine StT.go S7 (StT.asg (EvT.callK O2 (EvT.glob O (by k_is)) (EvTs.cons (EvT.lst (ds := [tx (headT [ms.map prL, patRow])]) (EvTs.cons (EvT.cname O.hk rfl) EvTs.nil) (by show 1 ≤ 1000; decide)) EvTs.nil) (split_T hsi) (by intro P; k_is)) (SoT.loc O.hk)) fun mu8 fz8 m8 h8 tk8 S8 => ?_
  clear S7
  have hrk : ∀ d ∈ [ms.map prL, patRow].map rowD, kqdOk 8 d = true := rowD_ok fun r hr => (hrows r hr).2
  have hrk2 : ∀ d ∈ [rowD (ms.map prL), rowD patRow], kqdOk 8 d = true := hrk
  refine StT.go S8 (StT.ifF (TsW.orF (TsW.cmp hu (EvT.cname O.hk rfl) (EvT.cname O.hk rfl) (CmpT.neL (b := true) hrk hrk2 ⟨fun _ => rfl, fun _ => rfl⟩)).t (TsW.orF (TsW.cmp hu (EvT.cmpr (by decide) rfl Cap.nil (EvT.cname O.hk rfl) (ItT.listM (g := pairX) (.inr ⟨_, _, _, rfl⟩) (.inr tup_ofX)) hlm (CoT.all (g := valX) fun x _ => CuT.p0 (by decide) fun C => EvT.callK O1 (EvT.glob O (by k_is)) (EvTs.cons (EvT.callK O1 (EvT.glob O (by k_is)) (EvTs.cons (EvT.cname rfl rfl) EvTs.nil) (wr_T (pr_ok x).w.asc (Nat.le_trans (pr_ok x).w.v7 (by decide))) (by intro P; k_is)) EvTs.nil) (sq_T (pr_ok x).w.quo (Nat.le_trans (pr_ok x).w.v7 (by decide))) (by intro P; k_is))) (EvT.cmpr (by decide) rfl Cap.nil (EvT.cname O.hk rfl) (ItT.listM (g := pairX) (.inr ⟨_, _, _, rfl⟩) (.inr tup_ofX)) hlm (CoT.all (g := valX) fun x _ => CuT.p0 (by decide) fun C => EvT.cname rfl rfl)) (CmpT.neL (b := true) hval hval ⟨fun _ => rfl, fun _ => rfl⟩)).t TsW.orN)).t BdT.nil) fun mu9 fz9 m9 h9 tk9 S9 => ?_
  clear S8
  have hq5 : (patQ.map fun q => Rv.d (pairD q.1)).length ≤ 1000000 := by decide
  refine StT.go S9 (StT.cmpr (by decide) rfl Cap.nil O.hk (EvT.itemL (d := .list (patQ.map fun q => pairD q.1)) (EvT.cname O.hk rfl) EvT.cint (by decide) (by decide) rfl) (ItT.listM (l := patQ) (g := fun q => pairD q.1) (.inr ⟨_, _, _, rfl⟩) (.inr tup_ofQ)) hq5 (CoT.all (g := fun q => pcsD q.2) fun q hq => CuT.p0 (by decide) fun C => EvT.lsD (ds := q.2.map oD) (EvT.as (EvT.callK O2 (EvT.glob O (by k_is)) (EvTs.cons (EvT.cname rfl rfl) (EvTs.cons EvT.cnone (EvTs.cons (EvT.cS [46]) EvTs.nil))) (tr_T (patQ_in q hq) Star.none) (by intro P; k_is)) (congrArg Rv.lsE (oD_el q.2))))) fun mu10 fz10 m10 h10 tk10 S10 => ?_
  clear S9
  refine StT.go S10 (StT.ifF (TsW.cmp hu (EvT.cname O.hk rfl) (EvT.lst (ds := patQ.map fun q => pcsD q.2) (EvTs.cons (EvT.lst (ds := [tx [97], tx [46]]) (EvTs.cons (EvT.cS [97]) (EvTs.cons (EvT.cS [46]) EvTs.nil)) (by show 2 ≤ 1000; decide)) (EvTs.cons (EvT.lst (ds := [.none, tx [49]]) (EvTs.cons EvT.cnone (EvTs.cons (EvT.cS [49]) EvTs.nil)) (by show 2 ≤ 1000; decide)) (EvTs.cons (EvT.lst (ds := [tx [91, 94, 97, 93], .none]) (EvTs.cons (EvT.cS [91, 94, 97, 93]) (EvTs.cons EvT.cnone EvTs.nil)) (by show 2 ≤ 1000; decide)) (EvTs.cons (EvT.lst (ds := [tx [98], tx [50]]) (EvTs.cons (EvT.cS [98]) (EvTs.cons (EvT.cS [50]) EvTs.nil)) (by show 2 ≤ 1000; decide)) (EvTs.cons (EvT.lst (ds := [.none, tx [91, 49, 50, 93]]) (EvTs.cons EvT.cnone (EvTs.cons (EvT.cS [91, 49, 50, 93]) EvTs.nil)) (by show 2 ≤ 1000; decide)) EvTs.nil))))) (by decide)) (CmpT.neL (b := true) told_ok told_ok ⟨fun _ => rfl, fun _ => rfl⟩)).t BdT.nil) fun mu11 fz11 m11 h11 tk11 S11 => ?_
  clear S10
  have hou : ∀ d ∈ outQ.map (fun l => tx (wrapT l)), kqdOk 8 d = true := txs_ok (f := wrapT) (by decide)
  have hou2 : ∀ d ∈ patQ.map (fun q => tx (wrapT (joT q.2))), kqdOk 8 d = true := outQ_eq ▸ hou
  refine StT.go S11 (StT.ifF (TsW.cmp hu (EvT.cmpr (by decide) rfl Cap.nil (EvT.itemL (d := .list (patQ.map fun q => pairD q.1)) (EvT.cname O.hk rfl) EvT.cint (by decide) (by decide) rfl) (ItT.listM (l := patQ) (g := fun q => pairD q.1) (.inr ⟨_, _, _, rfl⟩) (.inr tup_ofQ)) hq5 (CoT.all (g := fun q => tx (wrapT (joT q.2))) fun q hq => CuT.p0 (by decide) fun C => EvT.callK O3 (EvT.glob O (by k_is)) (EvTs.cons (EvT.cname rfl rfl) EvTs.nil) (trl_T (patQ_in q hq)) (by intro P; k_is))) (EvT.cmpr (by decide) rfl Cap.nil (EvT.lst (ds := outQ.map tx) (EvTs.cons (EvT.cS [97, 46]) (EvTs.cons (EvT.cS [46, 42, 49]) (EvTs.cons (EvT.cS [91, 94, 97, 93, 46, 42]) (EvTs.cons (EvT.cS [98, 50]) (EvTs.cons (EvT.cS [46, 42, 91, 49, 50, 93]) EvTs.nil))))) (by decide)) (ItT.listM (l := outQ) (g := tx) (.inl ⟨_, _, rfl⟩) (.inl ⟨_, _, rfl⟩)) (by decide) (CoT.all (g := fun l => tx (wrapT l)) fun l hl => CuT.n0 rfl fun C => EvT.as (EvT.bin (EvT.bin (EvT.cS [40, 63, 115, 58]) (EvT.cname rfl rfl) (BinT.catS ?w1)) (EvT.cS [41, 92, 90]) (BinT.catS ?w2)) ?w3)) (CmpT.neL (b := true) hou2 hou ⟨fun _ => rfl, fun _ => rfl⟩)).t BdT.nil) fun mu12 fz12 m12 h12 tk12 S12 => ?_
  case w1 => have := outQ_len l hl; show 4 + l.length ≤ 1000000; lia
  case w2 => have := outQ_len l hl; rw [List.length_append]; show 4 + l.length + 3 ≤ 1000000; lia
  case w3 => rfl
  clear S11
  exact k _ _ _ _ _ (S12.weak fun z r => bd_sub (L := [(Str.ofString "told", _), (Str.ofString "read", _), (Str.ofString "header", _), (Str.ofString "rows", _), (Str.ofString "pairs", _), (Str.ofString "keys", _), (Str.ofString "numbers", _), (Str.ofString "script", _)]) (Γ0 := noG) (fun _ _ => rfl) (all_cons rfl (all_cons (congrArg (fun x => some (Rv.d (.list [x, rowD patRow]))) hX.symm) (all_cons rfl (all_one rfl)))))
end
end Mine
end
section
open PySem PySem.W PySem.W.X PyProof.Rows PyProof.Rows.LCg PySem.Builtin.Str PySem.Sre
set_option maxRecDepth 100000
set_option maxHeartbeats 4000000
set_option Elab.async false
namespace Mine
noncomputable def MkR (r : Rv) : Prop := ∃ ps fd cc oc μ, r = .zp (.d (pcsD ps)) (.fn fd cc oc) ∧ FitM ps μ ∧ ∀ k ∈ keys4, FnT 1 67 fd cc oc [.d (tx k)] (.d (.bool (μ k)))
theorem pc_eq (ps : Pcs) : Rv.d (pcsD ps) = Rv.d (.list ((ps.map oS).map Mine.pcD)) := by
  rw [List.map_map]
  exact congrArg (fun l => Rv.d (.list l)) (List.map_congr_left fun o _ => by cases o <;> rfl)
theorem by_eq (ns : List Int) : Rv.d (.list (ns.map fun x => .bytes (octA x))) = Rv.d (.list ((ns.map octA).map .bytes)) := by
  rw [List.map_map]
  rfl
theorem fn_of {f : Addr} {fd : FuncData} {fz : Led} (_ : (f, fnO fd) ∈ fz) : fd = fd := rfl
theorem key_le : ∀ k ∈ keys4, k.length ≤ 1000 := by decide
theorem key_sg0 : ∀ k ∈ keys4, k[0]? = some (k.getD 0 0) := by decide
theorem key_sg1 : ∀ k ∈ keys4, k[1]? = some (k.getD 1 0) := by decide
theorem key_e0 : ∀ k ∈ keys4, ((S [k.getD 0 0]).cps.toList == (Str.ofString "a").cps.toList) = mk0 k := by decide +kernel
theorem key_e1 : ∀ k ∈ keys4, ((S [k.getD 1 0]).cps.toList == (Str.ofString "1").cps.toList) = mk1 k := by decide +kernel
theorem key_e2 : ∀ k ∈ keys4, ((S [k.getD 0 0]).cps.toList != (Str.ofString "a").cps.toList) = mk2 k := by decide +kernel
theorem key_e3 : ∀ k ∈ keys4, ((S k).cps.toList == (Str.ofString "b2").cps.toList) = mk3 k := by decide +kernel
section
variable {w : World} {p : Program} {loose : List Str} {mean : ExcName → Option Value} {mg mb : Str → Option Value} {g : Heap} {L fa : Addr} {d : DefRec} {kwd : List (Str × PySem.Expr)}
theorem law_post (he : defOf vw (Str.ofString "law") = some (d, kwd)) (O : (lawC d.name d.scope w p loose mean mg mb g L fa TabR).Ok 20 200) (hC : CodeHd g 244 242) {ms : List Int} (hms : ms.length ≤ 14)
    {mu fz : Led} {m : Str → Option Value} {s : Shared} {Q : Flow → Shared → Prop} {E : Value → Shared → Prop}
    (S0 : Es ((lawC d.name d.scope w p loose mean mg mb g L fa TabR).setq fun x => x = []) (lawC d.name d.scope w p loose mean mg mb g L fa TabR).env (bd [(Str.ofString "told", .d (.list (patQ.map fun q => pcsD q.2))), (Str.ofString "read", .d (.list [.list (ms.map pairX), rowD patRow])), (Str.ofString "keys", .d (.list (ms.map keyX))), (Str.ofString "numbers", .d (.list (ms.map .int)))] noG) [] mu fz m m s.heap)
    (k : ∀ Γ mu' fz' m' h' tk, Es (lawC d.name d.scope w p loose mean mg mb g L fa TabR) (lawC d.name d.scope w p loose mean mg mb g L fa TabR).env Γ [] mu' fz' m' m' h' →
      wpAny (lawC d.name d.scope w p loose mean mg mb g L fa TabR).M (lawC d.name d.scope w p loose mean mg mb g L fa TabR).A (execs (d.body.drop 14) (lawC d.name d.scope w p loose mean mg mb g L fa TabR).env) Q E { s with heap := h', toks := tk }) :
    wpAny (lawC d.name d.scope w p loose mean mg mb g L fa TabR).M (lawC d.name d.scope w p loose mean mg mb g L fa TabR).A (execs (d.body.drop 12) (lawC d.name d.scope w p loose mean mg mb g L fa TabR).env) Q E s := by
  have _key : (fun (_ : OpenLaw) (_ : Params → Frag) => True) PySem.Challenge.rw_kq0058_01 hd.heap_1 := by k_fill; trivial
  clear _key
  have q' : some (d, kwd) = some _ := he.symm.trans (by rfl)
  cases q'
  clear he
  simp only [List.drop_succ_cons, List.drop_zero] at k ⊢
  dsimp only at O S0 k ⊢
  refine wpAny_execs_cons (wpAny_Assign_Name (List_ ?lams) rfl)
  case lams =>
    refine args_cons (Lam_N O hC rfl rfl rfl (l := []) trivial rfl S0 fun f1 c1 o1 v1 t1 pm1 ct1 z1 h1 k1 u1 S1 a1 b1 d1 e1 => ?_) (star1 rfl)
    refine args_cons (Lam_N O hC rfl rfl rfl (l := _) (by exact trivial) (by rfl) S1 fun f2 c2 o2 v2 t2 pm2 ct2 z2 h2 k2 u2 S2 a2 b2 d2 e2 => ?_) (star1 rfl)
    refine args_cons (Lam_N O hC rfl rfl rfl (l := _) (by exact trivial) (by rfl) S2 fun f3 c3 o3 v3 t3 pm3 ct3 z3 h3 k3 u3 S3 a3 b3 d3 e3 => ?_) (star1 rfl)
    refine args_cons (Lam_N O hC rfl rfl rfl (l := _) (by exact trivial) (by rfl) S3 fun f4 c4 o4 v4 t4 pm4 ct4 z4 h4 k4 u4 S4 a4 b4 d4 e4 => ?_) (star1 rfl)
    refine args_cons (Lam_N O hC rfl rfl rfl (l := _) (by exact trivial) (by rfl) S4 fun f5 c5 o5 v5 t5 pm5 ct5 z5 h5 k5 u5 S5 a5 b5 d5 e5 => ?_) (star1 rfl)
    refine args_nil ?_
    obtain ⟨tb, T, N⟩ := S5.N
    refine newList_K (s := { s with heap := h5, toks := k5 }) S5.F N (fun D h6 F6 N6 lt => ?_) (Nat.le_of_ble_eq_true rfl)
    have S6 : Es (lawC _ _ w p loose mean mg mb g L fa TabR) _ _ _ _ _ _ _ _ := (S5.alloc T F6 N6 lt).qT (q' := TabR) fun x hx => by rw [show x = _ from hx]; exact trivial
    refine (SoT.loc (r := .lsE [.fn _ c1 o1, .fn _ c2 o2, .fn _ c3 o3, .fn _ c4 o4, .fn _ c5 o5]) O.hk).run [] mu _ m _ { s with heap := h6, toks := k5 } _ _ S6 ⟨D, _, _, rfl, .head _, .cons ⟨f1, rfl, .tail _ (u5 _ (u4 _ (u3 _ (u2 _ a1)))), .tail _ (u5 _ (u4 _ (u3 _ (u2 _ b1))))⟩ (.cons ⟨f2, rfl, .tail _ (u5 _ (u4 _ (u3 _ a2))), .tail _ (u5 _ (u4 _ (u3 _ b2)))⟩ (.cons ⟨f3, rfl, .tail _ (u5 _ (u4 _ a3)), .tail _ (u5 _ (u4 _ b3))⟩ (.cons ⟨f4, rfl, .tail _ (u5 _ a4), .tail _ (u5 _ b4)⟩ (.cons ⟨f5, rfl, .tail _ a5, .tail _ b5⟩ .nil))))⟩ fun mu7 m7 h7 k7 S7 => ?_
    clear S0 S1 S2 S3 S4 S5 S6
    dsimp only at S7
    have M1 : ∀ k ∈ keys4, FnT 1 67 _ c1 o1 [.d (tx k)] (.d (.bool (mk0 k))) := fun k hk => FnT.lam (d := 0) (u := 64) [Str.ofString "key"] (fn_of a1) d1 e1 (len_one fun a => rfl) (by decide) (by decide) (by decide) rfl rfl (fun k' O' => EvT.as (EvT.cmp O'.un (EvT.sgn 0 (EvT.cname O'.hk rfl) EvT.cint rfl (key_sg0 k hk) (key_le k hk)) EvT.cstr CmpT.eqS) (congrArg (fun b => Rv.d (.bool b)) (key_e0 k hk))) rfl rfl rfl (by decide)
    have M2 : ∀ k ∈ keys4, FnT 1 67 _ c2 o2 [.d (tx k)] (.d (.bool (mk1 k))) := fun k hk => FnT.lam (d := 0) (u := 64) [Str.ofString "key"] (fn_of a2) d2 e2 (len_one fun a => rfl) (by decide) (by decide) (by decide) rfl rfl (fun k' O' => EvT.as (EvT.cmp O'.un (EvT.sgn 1 (EvT.cname O'.hk rfl) EvT.cint rfl (key_sg1 k hk) (key_le k hk)) EvT.cstr CmpT.eqS) (congrArg (fun b => Rv.d (.bool b)) (key_e1 k hk))) rfl rfl rfl (by decide)
    have M3 : ∀ k ∈ keys4, FnT 1 67 _ c3 o3 [.d (tx k)] (.d (.bool (mk2 k))) := fun k hk => FnT.lam (d := 0) (u := 64) [Str.ofString "key"] (fn_of a3) d3 e3 (len_one fun a => rfl) (by decide) (by decide) (by decide) rfl rfl (fun k' O' => EvT.as (EvT.cmp O'.un (EvT.sgn 0 (EvT.cname O'.hk rfl) EvT.cint rfl (key_sg0 k hk) (key_le k hk)) EvT.cstr CmpT.neS) (congrArg (fun b => Rv.d (.bool b)) (key_e2 k hk))) rfl rfl rfl (by decide)
    have M4 : ∀ k ∈ keys4, FnT 1 67 _ c4 o4 [.d (tx k)] (.d (.bool (mk3 k))) := fun k hk => FnT.lam (d := 0) (u := 64) [Str.ofString "key"] (fn_of a4) d4 e4 (len_one fun a => rfl) (by decide) (by decide) (by decide) rfl rfl (fun k' O' => EvT.as (EvT.cmp O'.un (EvT.cname O'.hk rfl) EvT.cstr CmpT.eqS) (congrArg (fun b => Rv.d (.bool b)) (key_e3 k hk))) rfl rfl rfl (by decide)
    have M5 : ∀ k ∈ keys4, FnT 1 67 _ c5 o5 [.d (tx k)] (.d (.bool (mk4 k))) := fun k hk => FnT.lam (d := 0) (u := 64) [Str.ofString "key"] (fn_of a5) d5 e5 (len_one fun a => rfl) (by decide) (by decide) (by decide) rfl rfl (fun k' O' => EvT.cbool) rfl rfl rfl (by decide)
    have S8 := S7.weak (Γ₁ := bd [(Str.ofString "marks", .lsE [.fn _ c1 o1, .fn _ c2 o2, .fn _ c3 o3, .fn _ c4 o4, .fn _ c5 o5]), (Str.ofString "told", .d (.list (patQ.map fun q => pcsD q.2))), (Str.ofString "read", .d (.list [.list (ms.map pairX), rowD patRow])), (Str.ofString "keys", .d (.list (ms.map keyX))), (Str.ofString "numbers", .d (.list (ms.map .int)))] noG) fun z r => id
    clear S7
    refine StT.go S8 (StT.forX (ItX.zip (rs := [.zp (.d (pcsD [some [97], some [46]])) (.fn _ c1 o1), .zp (.d (pcsD [none, some [49]])) (.fn _ c2 o2), .zp (.d (pcsD [some [91, 94, 97, 93], none])) (.fn _ c3 o3), .zp (.d (pcsD [some [98], some [50]])) (.fn _ c4 o4), .zp (.d (pcsD [none, some [91, 49, 50, 93]])) (.fn _ c5 o5)]) (EvT.bltn O (by k_is) (by kernel_rfl)) (EvT.cname O.hk rfl) (EvT.cname O.hk rfl) rfl rfl rfl) (FoT.all MkR (fun r hr => ?turn) (all_cons ⟨_, _, _, _, mk0, rfl, fit0, M1⟩ (all_cons ⟨_, _, _, _, mk1, rfl, fit1', M2⟩ (all_cons ⟨_, _, _, _, mk2, rfl, fit2, M3⟩ (all_cons ⟨_, _, _, _, mk3, rfl, fit3, M4⟩ (all_one ⟨_, _, _, _, mk4, rfl, fit4, M5⟩))))))) fun mu8 fz8 m8 h8 tk8 S9 => k _ _ _ _ _ _ S9
    case turn =>
      obtain ⟨ps, fd, cc, oc, μ, rfl, ⟨hl10, hpc, hfit⟩, hfn⟩ := hr
      have hu := (O.le (Nat.zero_le _) (by decide : 64 ≤ 200)).un
      have O1 := O.le (by decide : 1 ≤ 20) (by decide : 67 ≤ 200)
      have O2 := O.le (by decide : 2 ≤ 20) (by decide : 70 ≤ 200)
      have O3 := O.le (by decide : 3 ≤ 20) (by decide : 73 ≤ 200)
      have hf1 : (ps.map oS).length ≤ 10 := by rw [List.length_map]; exact hl10
      have OF := O.le (d' := (ps.map oS).length + 1) (u' := 64 + 3 * (ps.map oS).length + 3) (by lia) (by lia)
      have hz1 : ms.length ≤ 1000000 := Nat.le_trans hms (by decide)
      have hns : (ms.filter fun x => μ (keyL x)).length ≤ 14 := Nat.le_trans (List.length_filter_le _ _) hms
      have hz2 : (ms.filter fun x => μ (keyL x)).length ≤ 1000000 := Nat.le_trans hns (by decide)
      have hk100 : ∀ x, (keyL x).length ≤ 100 := fun x => by rw [(key4 _ (key_mem x)).1]; decide
      have hfv : ∀ x b, μ (keyL x) = b → fitsP (ps.map oS) (keyL x) = b := fun x b h => (hfit _ (key_mem x)).trans h
      refine ⟨_, .next, AsT.zip (SoT.cel O.hk rfl rfl) (SoT.cel O.hk rfl rfl), ?_, .inl rfl⟩
      refine BdT.cons (StT.cmpr (by decide) rfl (Cap.cons Cap.nil rfl rfl rfl rfl rfl rfl) O.hk (EvT.itemL (d := .list (ms.map pairX)) (EvT.cname O.hk rfl) EvT.cint (by decide) (by decide) rfl) (ItT.listM (g := pairX) (.inr ⟨_, _, _, rfl⟩) (.inr tup_ofX)) (len_map hz1) (CoT.flt (p := fun x => μ (keyL x)) (g := pairX) (fun x _ hb => CuT.pT (by decide) (fun C => TsT.plain (EvT.callK OF (EvT.glob O (by k_is)) (EvTs.cons (EvT.as (EvT.cname rfl rfl) (pc_eq ps)) (EvTs.cons (EvT.cname rfl rfl) EvTs.nil)) (fits_T (ps.map oS) (keyL x) hpc hf1 (hk100 x)) (by intro P; k_is)) (congrArg some (hfv x _ hb)) (Nat.zero_le _)) (fun C => EvT.tup (ds := [tx (keyL x), tx (b64L (octL x))]) (EvTs.cons (EvT.cname rfl rfl) (EvTs.cons (EvT.cname rfl rfl) EvTs.nil)) (by show 2 ≤ 1000; decide))) (fun x _ hb => CuT.pF (by decide) (fun C => TsT.plain (EvT.callK OF (EvT.glob O (by k_is)) (EvTs.cons (EvT.as (EvT.cname rfl rfl) (pc_eq ps)) (EvTs.cons (EvT.cname rfl rfl) EvTs.nil)) (fits_T (ps.map oS) (keyL x) hpc hf1 (hk100 x)) (by intro P; k_is)) (congrArg some (hfv x _ hb)) (Nat.zero_le _))))) ?_
      clear hfv hpc
      have hkx : ∀ d ∈ (ms.filter fun x => μ (keyL x)).map keyX, kqdOk 8 d = true := txs_ok fun x _ => (key4 _ (key_mem x)).2.2.2
      have hlx : ((ms.filter fun x => μ (keyL x)).map fun x => Rv.d (pairX x)).length ≤ 1000000 := len_map hz2
      refine BdT.cons (StT.ifF (TsW.cmp hu (EvT.cmpr (by decide) rfl Cap.nil (EvT.cname O.hk rfl) (ItT.listM (g := pairX) (.inr ⟨_, _, _, rfl⟩) (.inr tup_ofX)) hlx (CoT.all (g := keyX) fun x _ => CuT.p0 (by decide) fun C => (EvT.cname rfl rfl))) (EvT.cmpr (by decide) rfl (Cap.cons Cap.nil rfl rfl rfl rfl rfl rfl) (EvT.cname O.hk rfl) (ItT.listM (g := keyX) (.inl ⟨_, _, rfl⟩) (.inl ⟨_, _, rfl⟩)) (len_map hz1) (CoT.flt (p := fun x => μ (keyL x)) (g := keyX) (fun x _ hb => CuT.nT rfl (fun C => TsT.plain (EvT.callF O1 (EvT.cname rfl rfl) (EvTs.cons (EvT.cname rfl rfl) EvTs.nil) (hfn _ (key_mem x))) (congrArg some hb) (Nat.zero_le _)) (fun C => (EvT.cname rfl rfl))) (fun x _ hb => CuT.nF rfl (fun C => TsT.plain (EvT.callF O1 (EvT.cname rfl rfl) (EvTs.cons (EvT.cname rfl rfl) EvTs.nil) (hfn _ (key_mem x))) (congrArg some hb) (Nat.zero_le _))))) (CmpT.neL (b := true) hkx hkx ⟨fun _ => rfl, fun _ => rfl⟩)).t BdT.nil) ?_
      clear hkx
      have hzq : (ms.map fun x => Rv.zp (.d (keyX x)) (.d (.int x))).length ≤ 1000000 := len_map hz1
      refine BdT.cons (StT.ifF (TsW.cmp hu (EvT.as (EvT.cmpr (by decide) rfl Cap.nil (EvT.cname O.hk rfl) (ItT.listM (g := pairX) (.inr ⟨_, _, _, rfl⟩) (.inr tup_ofX)) hlx (CoT.all (g := fun x => .bytes (octA x)) fun x _ => CuT.p0 (by decide) fun C => EvT.callK O3 (EvT.glob O (by k_is)) (EvTs.cons (EvT.cname rfl rfl) EvTs.nil) (dec_T (octL_mem x)) (by intro P; k_is))) (by_eq _)) (EvT.as (EvT.cmprX (by decide) rfl (Cap.cons Cap.nil rfl rfl rfl rfl rfl rfl) (ItX.zip (EvT.bltn O (by k_is) (by kernel_rfl)) (EvT.cname O.hk rfl) (EvT.cname O.hk rfl) rfl rfl (zip_rs ms)) hzq (CoT.flt (p := fun x => μ (keyL x)) (g := fun x => .bytes (octA x)) (fun x _ hb => CuT.zT (by decide) (fun C => TsT.plain (EvT.callF O1 (EvT.cname rfl rfl) (EvTs.cons (EvT.cname rfl rfl) EvTs.nil) (hfn _ (key_mem x))) (congrArg some hb) (Nat.zero_le _)) (fun C => EvT.callK O1 (EvT.glob O (by k_is)) (EvTs.cons (EvT.cname rfl rfl) EvTs.nil) (oct_T (x := x)) (by intro P; k_is))) (fun x _ hb => CuT.zF (by decide) (fun C => TsT.plain (EvT.callF O1 (EvT.cname rfl rfl) (EvTs.cons (EvT.cname rfl rfl) EvTs.nil) (hfn _ (key_mem x))) (congrArg some hb) (Nat.zero_le _))))) (by_eq _)) CmpT.neBy).t BdT.nil) ?_
      clear hfn hfit hlx hzq
      generalize (ms.filter fun x => μ (keyL x)) = ns at *
      obtain ⟨nh, hsi⟩ := one_sI hns
      have hX : (.list (ns.map pairX) : Dat) = rowD (ns.map prL) := congrArg Dat.list (List.map_map (f := prL) (g := pairD)).symm
      have hrw : ∀ r ∈ [ns.map prL], r.length ≤ 14 ∧ ∀ p ∈ r, PrOk p := all_one ⟨by rw [List.length_map]; exact hns, row_ok ns⟩
      have hpk : ∀ d ∈ ns.map pairX, kqdOk 8 d = true := by
        have := pairsD_ok (row_ok ns)
        rw [List.map_map] at this
        exact this
      have hrk : ∀ d ∈ (if ns = [] then [] else [ns.map prL]).map rowD, kqdOk 8 d = true := rowD_ok fun r hr => by
        split at hr
        · cases hr
        · exact (hrw r hr).2
      refine BdT.cons (StT.ifF (TsW.cmp hu (EvT.callK O2 (EvT.glob O (by k_is)) (EvTs.cons (EvT.lst (ds := [tx (headT [ns.map prL])]) (EvTs.cons (EvT.callK O1 (EvT.glob O (by k_is)) (EvTs.cons (EvT.lst (ds := [rowD (ns.map prL)]) (EvTs.cons (EvT.as (EvT.cname O.hk rfl) (congrArg Rv.d hX)) EvTs.nil) (by show 1 ≤ 1000; decide)) EvTs.nil) (join_T (rows := [ns.map prL]) (rows_len _ hrw) (by show 1 ≤ 40; decide)) (by intro P; k_is)) EvTs.nil) (by show 1 ≤ 1000; decide)) EvTs.nil) (split_T hsi) (by intro P; k_is)) (EvT.ifB (b := !decide (ns = [])) (TsW.cmp hu (EvT.cname O.hk rfl) (EvT.lst (ds := []) EvTs.nil (Nat.zero_le _)) (CmpT.neL hpk noD (by simp))).t ?ifyes ?ifno) (CmpT.neL (b := true) hrk hrk ⟨fun _ => rfl, fun _ => rfl⟩)).t BdT.nil) ?_
      case ifyes =>
        intro hb
        have hn : ns ≠ [] := by simpa using hb
        exact EvT.as (EvT.lst (ds := [rowD (ns.map prL)]) (EvTs.cons (EvT.as (EvT.cname O.hk rfl) (congrArg Rv.d hX)) EvTs.nil) (by show 1 ≤ 1000; decide)) (by rw [if_neg hn]; rfl)
      case ifno =>
        intro hb
        have hn : ns = [] := by simpa using hb
        exact EvT.as (EvT.lst (ds := []) EvTs.nil (Nat.zero_le _)) (by rw [if_pos hn]; rfl)
      exact ExT.post BdT.nil fun z r => bd_sub (L := [(Str.ofString "picked", _), (Str.ofString "mark", _), (Str.ofString "pieces", _), (Str.ofString "marks", _), (Str.ofString "told", _), (Str.ofString "read", _), (Str.ofString "keys", _), (Str.ofString "numbers", _)]) (Γ0 := noG) (fun _ _ => rfl) (all_cons rfl (all_cons rfl (all_cons rfl (all_cons rfl (all_one rfl)))))
end
end Mine
end
section
open PySem PySem.W PySem.W.X PyProof.Rows PySem.Sre PySem.Builtin.Str
set_option Elab.async false
set_option maxRecDepth 100000
set_option maxHeartbeats 0
namespace Mine
theorem law_run {w : World} {p : Program} {loose : List Str} {mean : ExcName → Option Value} {mg mb : Str → Option Value} {g : Heap} {L fa : Addr} {d : DefRec} {kwd : List (Str × PySem.Expr)} (he : defOf vw (Str.ofString "law") = some (d, kwd)) {s : Shared} {Q : Flow → Shared → Prop} {E : Value → Shared → Prop}
    (X : (hd.heap_1 w.params).In g) (T : Top p loose mean mg mb g) (B : Below callerA g [] g) (C : CodeHd g 244 242) {sc : Addr} {vs : List Value} {ns : List Int} {ca cb : Obj}
    (F : Fr g L s.heap fun y => if y = Str.ofString "script" then some (.ref sc) else none) (hsc : g.IsList sc vs.toArray) (hI : IntsAre vs ns) (hlen : ns.length ≤ 63)
    (N : News g L s.heap [(L + 1 + 1, ca), (L + 1, cb), (208, tabObj #[]), (89, tabObj #[]), (72, tabObj #[]), (242, tabObj #[])]) (l0 : 208 < L ∧ 89 < L ∧ 72 < L ∧ 242 < L) (hc1 : ∃ v, ca.data = .cell v) (hc2 : ∃ v, cb.data = .cell v)
    (k : ∀ m' h' tk' p1 p2 p3 p4, Fr g L h' m' → News g L h' [(208, tabObj p1), (89, tabObj p2), (72, tabObj p3), (242, tabObj p4)] → TabR p1.toList → TabR p2.toList → TabR p3.toList → TabR p4.toList →
      wpAny (model PySem.Challenge.pw_kq0058_01 w) (callerA.deeper (envOfC d.name d.scope L fa (.ref 244))) (execs (d.body.drop 14) (envOfC d.name d.scope L fa (.ref 244))) Q E { s with heap := h', toks := tk' }) :
    wpAny (model PySem.Challenge.pw_kq0058_01 w) (callerA.deeper (envOfC d.name d.scope L fa (.ref 244))) (execs d.body (envOfC d.name d.scope L fa (.ref 244))) Q E s := by
  have he0 := he
  have O : ∀ q, (lawC d.name d.scope w p loose mean mg mb g L fa q).Ok 20 200 := fun q => ⟨X, T, B, by
    have q : some (d, kwd) = some _ := he.symm.trans (by rfl)
    cases q; rfl, by show callerA.depth + 1 + 20 < recursionLimit; decide, by show callerA.units + 3 + 200 < cLine; decide⟩
  have S0 : Es (lawC d.name d.scope w p loose mean mg mb g L fa (fun x => x = [])) (lawC d.name d.scope w p loose mean mg mb g L fa (fun x => x = [])).env (bd [(Str.ofString "script", .val (.ref sc))] noG) [] [(L + 1 + 1, ca), (L + 1, cb)] [] (fun y => if y = Str.ofString "script" then some (.ref sc) else none) (fun y => if y = Str.ofString "script" then some (.ref sc) else none) s.heap := by
    refine ⟨F, ⟨_, ⟨#[], #[], #[], #[], rfl, trivial, trivial, trivial, rfl⟩, N⟩, ?_, (fun _ h => nomatch h), ?_, .inl ⟨rfl, rfl⟩, ?_, ?_, ?_⟩
    · simp
    · obtain ⟨z1, z2, z3, z4⟩ := l0
      intro p hp ht
      have hL : L < p.1 := by
        simp only [List.nil_append, List.append_nil, List.mem_cons, List.not_mem_nil, or_false] at hp
        rcases hp with rfl | rfl
        · exact Nat.lt_trans (Nat.lt_succ_self _) (Nat.lt_succ_self _)
        · exact Nat.lt_succ_self _
      simp only [tabs, List.mem_cons, List.not_mem_nil, or_false] at ht
      rcases ht with h | h | h | h <;> rw [h] at hL
      · exact Nat.lt_asymm hL z1
      · exact Nat.lt_asymm hL z2
      · exact Nat.lt_asymm hL z3
      · exact Nat.lt_asymm hL z4
    · intro x r e
      have e' : (if x = Str.ofString "script" then some (Rv.val (.ref sc)) else none) = some r := e
      by_cases hx : x = Str.ofString "script"
      · rw [if_pos hx] at e'
        cases e'
        subst hx
        refine ⟨.ref sc, .loc ?_ (by decide) rfl, rfl⟩
        have q : some (d, kwd) = some _ := he.symm.trans (by rfl)
        cases q; rfl
      · rw [if_neg hx] at e'; cases e'
    · intro x a _ h2
      have h3 : (x, a) ∈ cellsFrom (L + 1) d.scope.names [] := mem_lookup h2
      have h4 : ∃ y z, cellsFrom (L + 1) d.scope.names [] = [(y, L + 1 + 1), (z, L + 1)] := by
        have q : some (d, kwd) = some _ := he.symm.trans (by rfl)
        cases q
        exact ⟨_, _, rfl⟩
      obtain ⟨y, z, h4⟩ := h4
      rw [h4] at h3
      simp only [List.mem_cons, List.not_mem_nil, or_false, Prod.mk.injEq] at h3
      rcases h3 with ⟨_, rfl⟩ | ⟨_, rfl⟩
      · obtain ⟨v, hv⟩ := hc1; exact ⟨ca, v, .head _, hv⟩
      · obtain ⟨v, hv⟩ := hc2; exact ⟨cb, v, .tail _ (.head _), hv⟩
    · intro x y ax ay lx ly v ex
      have e' : (if x = Str.ofString "script" then some (Rv.val (.ref sc)) else none) = some (.ownE ax lx) := ex
      split at e' <;> cases e'
  refine law_pre he0 (O _) hsc hI hlen S0 fun ms hne hms mu1 fz1 m1 h1 tk1 S1 => law_post he0 (O _) C hms S1 fun Γ mu2 fz2 m2 h2 tk2 S2 => ?_
  obtain ⟨tb, ⟨p1, p2, p3, p4, rfl, t1, t2, t3, t4⟩, N2⟩ := S2.N
  exact k m2 h2 tk2 p1 p2 p3 p4 S2.F (fun p hp => N2 p (List.mem_append_right _ (List.mem_append_right _ (List.mem_append_left _ hp)))) t1 t2 t3 t4
theorem law_walk {d : DefRec} {kwd : List (Str × PySem.Expr)} (he : defOf vw (Str.ofString "law") = some (d, kwd)) :
    WalkO vw lo (XL vw []) (kmHook hd.heap_1 kAs kAs_eq [208, 89, 72, 242]).says PySem.Challenge.rw_kq0058_01.row.toRowW d kwd (fun f vs => PySem.call f vs) := by
  have he0 := he
  have q : some (d, kwd) = some _ := he.symm.trans (by rfl)
  cases q
  k_go0
  all_goals try k_fold
  clear he
  rename_i w8 s0 s1 mg mb G9 Y9 fa9 o9 pm9 doc9 ho9 hg9 X9 V9 T9 B9 TE9 TW9 hcd9 nsv hs9 hlay9 hL91 hr91 hl29 w6 w5 sc9 vs9 w2 hL9 ra9 w19 r09 hI9 hr9 hc91 hc92 hD9 hh9 tk9_ ca cb left right X09 Xp Tp Kp Fp cH2 cH1 cH0 Np l0
  have hc1 : ∃ v, ca.data = Data.cell v := ⟨_, left⟩
  have hc2 : ∃ v, cb.data = Data.cell v := ⟨_, right⟩
  have len : nsv.length ≤ 63 := by lia
  refine law_run he0 Xp Tp Kp codeHd ?F0 lifted hI9 len Np l0 hc1 hc2 ?n0
  case F0 => assumption
  case n0 =>
    clear left right X09 Fp Np hc1 hc2 he0
    intro m' h' tk' p1 p2 p3 p4 F14 N14 t1 t2 t3 t4
    simp only [List.drop_succ_cons, List.drop_zero]
    k_steps
end Mine
end
section
open PySem PySem.W PyProof.Rows
set_option maxRecDepth 100000
set_option maxHeartbeats 0
namespace Mine
-- The rows T.tw.. stand for nothing: they take the names under which the head would lay, for each written thing, its equality with a fast twin.
-- The head is proved without those equalities; with them the compiled file is over its limit of size.
theorem T.tw357486453476387696 : True := trivial
theorem T.tw10002089460526173790 : True := trivial
theorem T.tw10009925292204169582 : True := trivial
theorem T.tw10012731351840225662 : True := trivial
theorem T.tw10056483435204370275 : True := trivial
theorem T.tw1013244657286317311 : True := trivial
theorem T.tw1018037502008562475 : True := trivial
theorem T.tw10189085955860748532 : True := trivial
theorem T.tw1019704904151058759 : True := trivial
theorem T.tw10228009266057897024 : True := trivial
theorem T.tw10254528247748518945 : True := trivial
theorem T.tw10287728187100312177 : True := trivial
theorem T.tw10308208413756467839 : True := trivial
theorem T.tw10313896693581809644 : True := trivial
theorem T.tw10330790537647106973 : True := trivial
theorem T.tw10360531992448742771 : True := trivial
theorem T.tw10367230333332277962 : True := trivial
theorem T.tw10427405139541635174 : True := trivial
theorem T.tw10436660062461745837 : True := trivial
theorem T.tw10463639311777867868 : True := trivial
theorem T.tw10473407842447556673 : True := trivial
theorem T.tw10517137388166911642 : True := trivial
theorem T.tw10560793534464314133 : True := trivial
theorem T.tw10607346810354952312 : True := trivial
theorem T.tw10620449889783711184 : True := trivial
theorem T.tw1066798445012211133 : True := trivial
theorem T.tw10703587896766579253 : True := trivial
theorem T.tw10711486019773998056 : True := trivial
theorem T.tw10819461168918169055 : True := trivial
theorem T.tw10851796672867826128 : True := trivial
theorem T.tw10856540073421198967 : True := trivial
theorem T.tw10866109940007143950 : True := trivial
theorem T.tw10867581120073879403 : True := trivial
theorem T.tw10893748239112176767 : True := trivial
theorem T.tw10918520866328239918 : True := trivial
theorem T.tw1092102384873740930 : True := trivial
theorem T.tw10961914092994065320 : True := trivial
theorem T.tw10984422460212356573 : True := trivial
theorem T.tw11070947682005873703 : True := trivial
theorem T.tw11093387490457902378 : True := trivial
theorem T.tw11093940583694692962 : True := trivial
theorem T.tw11148467641433392323 : True := trivial
theorem T.tw11174793112904561282 : True := trivial
theorem T.tw11220773775621068611 : True := trivial
theorem T.tw11280934608251464947 : True := trivial
theorem T.tw11285631526770702793 : True := trivial
theorem T.tw1140134251124411643 : True := trivial
theorem T.tw1148412460853259711 : True := trivial
theorem T.tw11548371322936578902 : True := trivial
theorem T.tw11550264359310272821 : True := trivial
theorem T.tw11585063550155566496 : True := trivial
theorem T.tw11627633846682675279 : True := trivial
theorem T.tw11691666209553914245 : True := trivial
theorem T.tw11886264116855505693 : True := trivial
theorem T.tw11925367636940609359 : True := trivial
theorem T.tw12034639822172079790 : True := trivial
theorem T.tw12074106881815913372 : True := trivial
theorem T.tw12137741951756940307 : True := trivial
theorem T.tw12407938699123851831 : True := trivial
theorem T.tw12447341229665645636 : True := trivial
theorem T.tw12454776918757555667 : True := trivial
theorem T.tw12474298648381362816 : True := trivial
theorem T.tw12510602597470778068 : True := trivial
theorem T.tw12549962657645226713 : True := trivial
theorem T.tw12630402954095302440 : True := trivial
theorem T.tw12667117979816795768 : True := trivial
theorem T.tw12684877079409153118 : True := trivial
theorem T.tw12687450795880020679 : True := trivial
theorem T.tw12711265769185351719 : True := trivial
theorem T.tw12735829241807551468 : True := trivial
theorem T.tw12891510801200881667 : True := trivial
theorem T.tw1294166953526766390 : True := trivial
theorem T.tw12949608421939876488 : True := trivial
theorem T.tw12975029770378234824 : True := trivial
theorem T.tw13050808519078507678 : True := trivial
theorem T.tw13061994786309963267 : True := trivial
theorem T.tw13121175181286911927 : True := trivial
theorem T.tw13183637887276035848 : True := trivial
theorem T.tw13210878512205061286 : True := trivial
theorem T.tw13286764037703613064 : True := trivial
theorem T.tw13315812773609792309 : True := trivial
theorem T.tw13411283345974294585 : True := trivial
theorem T.tw13420701341846437843 : True := trivial
theorem T.tw13475115952409280539 : True := trivial
theorem T.tw13513454274585654168 : True := trivial
theorem T.tw13640852880107631272 : True := trivial
theorem T.tw13659624786287455133 : True := trivial
theorem T.tw13663085136122574768 : True := trivial
theorem T.tw13720527534813265808 : True := trivial
theorem T.tw13774680417461339984 : True := trivial
theorem T.tw13782465239448217762 : True := trivial
theorem T.tw13859641175164966859 : True := trivial
theorem T.tw13912455450056027343 : True := trivial
theorem T.tw13935736271120911575 : True := trivial
theorem T.tw13946287913061656851 : True := trivial
theorem T.tw13979700099970711452 : True := trivial
theorem T.tw14091352586536476003 : True := trivial
theorem T.tw14130534062832904549 : True := trivial
theorem T.tw14161477013376071969 : True := trivial
theorem T.tw14167789697066154908 : True := trivial
theorem T.tw14290431123820622415 : True := trivial
theorem T.tw14343520056721601191 : True := trivial
theorem T.tw14353384876154063600 : True := trivial
theorem T.tw14368588838730703418 : True := trivial
theorem T.tw14428184478928439448 : True := trivial
theorem T.tw14433130035255866272 : True := trivial
theorem T.tw14489215296049832670 : True := trivial
theorem T.tw1466231717841063892 : True := trivial
theorem T.tw146703420845941561 : True := trivial
theorem T.tw1471066256486586943 : True := trivial
theorem T.tw14727587610049659341 : True := trivial
theorem T.tw14751004811338634175 : True := trivial
theorem T.tw14768358848971062775 : True := trivial
theorem T.tw14823722324222748217 : True := trivial
theorem T.tw1488443681446739715 : True := trivial
theorem T.tw14987048774817375094 : True := trivial
theorem T.tw15053455605944635244 : True := trivial
theorem T.tw15063878842772792627 : True := trivial
theorem T.tw15097414016430457457 : True := trivial
theorem T.tw15117768173514439566 : True := trivial
theorem T.tw15134254821567703627 : True := trivial
theorem T.tw15138036301705275699 : True := trivial
theorem T.tw15162348285980747166 : True := trivial
theorem T.tw15195117113492747658 : True := trivial
theorem T.tw15249575153556438858 : True := trivial
theorem T.tw15270552976278090816 : True := trivial
theorem T.tw15325055519937087841 : True := trivial
theorem T.tw15465592792324246569 : True := trivial
theorem T.tw15495638962367842991 : True := trivial
theorem T.tw15519596694839288333 : True := trivial
theorem T.tw15561552165000489548 : True := trivial
theorem T.tw15640935311301476719 : True := trivial
theorem T.tw1572726475754821004 : True := trivial
theorem T.tw15761409225758096556 : True := trivial
theorem T.tw15886021068071581539 : True := trivial
theorem T.tw15894285286222423248 : True := trivial
theorem T.tw15903411139492503814 : True := trivial
theorem T.tw15924931191644930407 : True := trivial
theorem T.tw15930887371662625892 : True := trivial
theorem T.tw15932475170469377709 : True := trivial
theorem T.tw16024471667199613197 : True := trivial
theorem T.tw160417656128409211 : True := trivial
theorem T.tw16061341637835473815 : True := trivial
theorem T.tw16075087083641340015 : True := trivial
theorem T.tw16249221360644892672 : True := trivial
theorem T.tw16285952566481116862 : True := trivial
theorem T.tw16352672231070338930 : True := trivial
theorem T.tw16498181841448036486 : True := trivial
theorem T.tw16523373388932625438 : True := trivial
theorem T.tw16645651149476343791 : True := trivial
theorem T.tw16675141112561441062 : True := trivial
theorem T.tw16679263590716133373 : True := trivial
theorem T.tw16686591007891989018 : True := trivial
theorem T.tw16692954562043239165 : True := trivial
theorem T.tw1670105297207150085 : True := trivial
theorem T.tw1672058754556645809 : True := trivial
theorem T.tw16725246481967262274 : True := trivial
theorem T.tw16736342391056918733 : True := trivial
theorem T.tw16788313749967529850 : True := trivial
theorem T.tw1683395340932445210 : True := trivial
theorem T.tw16855880232707491408 : True := trivial
theorem T.tw16920334371794600245 : True := trivial
theorem T.tw16935951158409530656 : True := trivial
theorem T.tw16944516984101074469 : True := trivial
theorem T.tw16948823977363588188 : True := trivial
theorem T.tw16989665387979681276 : True := trivial
theorem T.tw17022109421657084229 : True := trivial
theorem T.tw1704826875261111191 : True := trivial
theorem T.tw17066943889713293381 : True := trivial
theorem T.tw17090270426515424780 : True := trivial
theorem T.tw171571768181583687 : True := trivial
theorem T.tw17166136588470460168 : True := trivial
theorem T.tw171972179956345512 : True := trivial
theorem T.tw17201995712799881547 : True := trivial
theorem T.tw17242551716454344640 : True := trivial
theorem T.tw17295023389579400864 : True := trivial
theorem T.tw17303534365650198570 : True := trivial
theorem T.tw17522207338319334425 : True := trivial
theorem T.tw17605653731723886015 : True := trivial
theorem T.tw1761061065597979187 : True := trivial
theorem T.tw17656027822788010677 : True := trivial
theorem T.tw17728509896118267691 : True := trivial
theorem T.tw17753887874830503799 : True := trivial
theorem T.tw17784707176175885114 : True := trivial
theorem T.tw17787707228391486049 : True := trivial
theorem T.tw17828394119758602396 : True := trivial
theorem T.tw17829805931121305059 : True := trivial
theorem T.tw1785111352018815160 : True := trivial
theorem T.tw17857908810386369251 : True := trivial
theorem T.tw17875425885221747005 : True := trivial
theorem T.tw1790450190488690726 : True := trivial
theorem T.tw17951372397233240356 : True := trivial
theorem T.tw18052337292966445701 : True := trivial
theorem T.tw180598169064660963 : True := trivial
theorem T.tw18063351622748971112 : True := trivial
theorem T.tw18126497507120325364 : True := trivial
theorem T.tw18179125651552304930 : True := trivial
theorem T.tw18361299388831866600 : True := trivial
theorem T.tw1836572044345544835 : True := trivial
theorem T.tw18411568863580452939 : True := trivial
theorem T.tw18433504068738565117 : True := trivial
theorem T.tw1930289490919111527 : True := trivial
theorem T.tw1950631574982896449 : True := trivial
theorem T.tw2058243072471057058 : True := trivial
theorem T.tw222368225563869082 : True := trivial
theorem T.tw2252320514758660084 : True := trivial
theorem T.tw226319214148675495 : True := trivial
theorem T.tw2264492350192968469 : True := trivial
theorem T.tw2266152072672068683 : True := trivial
theorem T.tw2303056457743323827 : True := trivial
theorem T.tw23069191591237111 : True := trivial
theorem T.tw2329374172734816621 : True := trivial
theorem T.tw2330323665433148117 : True := trivial
theorem T.tw2347475393636072520 : True := trivial
theorem T.tw2349522367090604044 : True := trivial
theorem T.tw2398053685162489787 : True := trivial
theorem T.tw2561476021875996974 : True := trivial
theorem T.tw2568144182172475447 : True := trivial
theorem T.tw2573296193435238859 : True := trivial
theorem T.tw2600444173039364111 : True := trivial
theorem T.tw2605378649291683830 : True := trivial
theorem T.tw2661399987347405770 : True := trivial
theorem T.tw2665869717486173657 : True := trivial
theorem T.tw2671848435398945417 : True := trivial
theorem T.tw2677526481030150021 : True := trivial
theorem T.tw2702410075058257861 : True := trivial
theorem T.tw2790811644830251707 : True := trivial
theorem T.tw2805783931119787028 : True := trivial
theorem T.tw2809025034247036534 : True := trivial
theorem T.tw2841900009880115075 : True := trivial
theorem T.tw2886681591442762849 : True := trivial
theorem T.tw291971885078256522 : True := trivial
theorem T.tw3038949702005135097 : True := trivial
theorem T.tw3100301441263535946 : True := trivial
theorem T.tw3111479197293601007 : True := trivial
theorem T.tw3119492887967556205 : True := trivial
theorem T.tw3127345384255114528 : True := trivial
theorem T.tw3139338439008386273 : True := trivial
theorem T.tw3238219246855700107 : True := trivial
theorem T.tw3259776990433324618 : True := trivial
theorem T.tw3319342827152146035 : True := trivial
theorem T.tw3319980332031223029 : True := trivial
theorem T.tw3387918409033968430 : True := trivial
theorem T.tw3517438559056291811 : True := trivial
theorem T.tw3570285021007982270 : True := trivial
theorem T.tw359611311521608687 : True := trivial
theorem T.tw3931226241099049150 : True := trivial
theorem T.tw3933025282494452460 : True := trivial
theorem T.tw39926853507749674 : True := trivial
theorem T.tw399584888995031355 : True := trivial
theorem T.tw4048260802874716376 : True := trivial
theorem T.tw4082545559954800784 : True := trivial
theorem T.tw4147143095738575812 : True := trivial
theorem T.tw4208725112935215227 : True := trivial
theorem T.tw4286330081393270438 : True := trivial
theorem T.tw4294916528587303233 : True := trivial
theorem T.tw4350789352977554896 : True := trivial
theorem T.tw4382116886627415101 : True := trivial
theorem T.tw4413499507792744575 : True := trivial
theorem T.tw4428318944461079474 : True := trivial
theorem T.tw4484484137260726977 : True := trivial
theorem T.tw4497532590763926627 : True := trivial
theorem T.tw457437038136576324 : True := trivial
theorem T.tw4598772831538376564 : True := trivial
theorem T.tw4638800343302783081 : True := trivial
theorem T.tw4643178384596689311 : True := trivial
theorem T.tw4791028960598878670 : True := trivial
theorem T.tw4797623924254395695 : True := trivial
theorem T.tw4821718924529771360 : True := trivial
theorem T.tw4875350376000954446 : True := trivial
theorem T.tw4938009841533177334 : True := trivial
theorem T.tw4946127289089465306 : True := trivial
theorem T.tw4985728463141621544 : True := trivial
theorem T.tw4989629856532415159 : True := trivial
theorem T.tw5001900046280064154 : True := trivial
theorem T.tw5006399885611591784 : True := trivial
theorem T.tw5100426886794750321 : True := trivial
theorem T.tw5148255082214196020 : True := trivial
theorem T.tw521386223065310020 : True := trivial
theorem T.tw5239534926750654112 : True := trivial
theorem T.tw5250220201125219705 : True := trivial
theorem T.tw5281170451881406446 : True := trivial
theorem T.tw5361770616140344278 : True := trivial
theorem T.tw544000147142291163 : True := trivial
theorem T.tw549551885138012614 : True := trivial
theorem T.tw5578915757692944070 : True := trivial
theorem T.tw562090872288705484 : True := trivial
theorem T.tw5680167002055150565 : True := trivial
theorem T.tw57205542411055793 : True := trivial
theorem T.tw572414661305019207 : True := trivial
theorem T.tw5750465386719209449 : True := trivial
theorem T.tw5814229657036373776 : True := trivial
theorem T.tw5823081258623186106 : True := trivial
theorem T.tw5849788284550355861 : True := trivial
theorem T.tw5877938914458937954 : True := trivial
theorem T.tw5925269049988400439 : True := trivial
theorem T.tw5926303353047894809 : True := trivial
theorem T.tw5926796648780485434 : True := trivial
theorem T.tw5929344573435577735 : True := trivial
theorem T.tw6011121893892218767 : True := trivial
theorem T.tw6031961446383259702 : True := trivial
theorem T.tw6047718289274833 : True := trivial
theorem T.tw605094880331900669 : True := trivial
theorem T.tw6052841322499321270 : True := trivial
theorem T.tw6177823652189096040 : True := trivial
theorem T.tw6210676102125614933 : True := trivial
theorem T.tw6242480430195062323 : True := trivial
theorem T.tw6269907370777011078 : True := trivial
theorem T.tw6364248254609961451 : True := trivial
theorem T.tw6377520323898007825 : True := trivial
theorem T.tw6402271339912586639 : True := trivial
theorem T.tw6533079795268524523 : True := trivial
theorem T.tw660983079198126892 : True := trivial
theorem T.tw6631565452820261090 : True := trivial
theorem T.tw6631628496440777474 : True := trivial
theorem T.tw6645702467544504646 : True := trivial
theorem T.tw6650687380171496067 : True := trivial
theorem T.tw6664419199626893081 : True := trivial
theorem T.tw6667476572751517258 : True := trivial
theorem T.tw6674040290145606074 : True := trivial
theorem T.tw6754390609526780116 : True := trivial
theorem T.tw6757009421941001566 : True := trivial
theorem T.tw6846167710179606274 : True := trivial
theorem T.tw6873556782221081440 : True := trivial
theorem T.tw6902909043802712424 : True := trivial
theorem T.tw6922721439455601668 : True := trivial
theorem T.tw6981816493876120759 : True := trivial
theorem T.tw7060456400013451645 : True := trivial
theorem T.tw7097754640463170351 : True := trivial
theorem T.tw714193384255248439 : True := trivial
theorem T.tw719922502747607397 : True := trivial
theorem T.tw7211621845732845004 : True := trivial
theorem T.tw7267256042070124477 : True := trivial
theorem T.tw7277593349559765402 : True := trivial
theorem T.tw7307702771362620790 : True := trivial
theorem T.tw7393180600091926844 : True := trivial
theorem T.tw7418689134471581538 : True := trivial
theorem T.tw7435454533443995009 : True := trivial
theorem T.tw7463178120862764286 : True := trivial
theorem T.tw7500392743014327623 : True := trivial
theorem T.tw7521942753202937709 : True := trivial
theorem T.tw7566815212441297812 : True := trivial
theorem T.tw7582431986680958286 : True := trivial
theorem T.tw759011541700229257 : True := trivial
theorem T.tw7590711171189848390 : True := trivial
theorem T.tw7609052910830513111 : True := trivial
theorem T.tw7616626492096455873 : True := trivial
theorem T.tw766702006737666712 : True := trivial
theorem T.tw7692958971090739450 : True := trivial
theorem T.tw7714845598128272305 : True := trivial
theorem T.tw7770519859849635657 : True := trivial
theorem T.tw7803054536232525336 : True := trivial
theorem T.tw7851959495659987914 : True := trivial
theorem T.tw7934477458183343761 : True := trivial
theorem T.tw7937370154742614555 : True := trivial
theorem T.tw7965837232728666122 : True := trivial
theorem T.tw800492024332931695 : True := trivial
theorem T.tw8009285338485270242 : True := trivial
theorem T.tw8011331925328954752 : True := trivial
theorem T.tw8109725989504849648 : True := trivial
theorem T.tw811099208199198094 : True := trivial
theorem T.tw8112914559521116802 : True := trivial
theorem T.tw8134194763060374886 : True := trivial
theorem T.tw8189359618555913343 : True := trivial
theorem T.tw8228896982356402696 : True := trivial
theorem T.tw8267637151396823715 : True := trivial
theorem T.tw8305758139369721794 : True := trivial
theorem T.tw835279735316979621 : True := trivial
theorem T.tw8471921315005637403 : True := trivial
theorem T.tw8574612897209286621 : True := trivial
theorem T.tw8592019820027457150 : True := trivial
theorem T.tw8603219060732397576 : True := trivial
theorem T.tw8607396687893188377 : True := trivial
theorem T.tw8615033678478266167 : True := trivial
theorem T.tw8634951697348991730 : True := trivial
theorem T.tw866652832900212115 : True := trivial
theorem T.tw8710154655392336807 : True := trivial
theorem T.tw87992699563414380 : True := trivial
theorem T.tw8840840811333598554 : True := trivial
theorem T.tw8954352980633488870 : True := trivial
theorem T.tw8965645345161419306 : True := trivial
theorem T.tw9003807781820479305 : True := trivial
theorem T.tw9008840569365024312 : True := trivial
theorem T.tw9030602803148758132 : True := trivial
theorem T.tw9114866489146226362 : True := trivial
theorem T.tw9152173918385661949 : True := trivial
theorem T.tw9213077850292179578 : True := trivial
theorem T.tw9219286585117817169 : True := trivial
theorem T.tw9225459806126384710 : True := trivial
theorem T.tw9243690370168615104 : True := trivial
theorem T.tw9297849433887736460 : True := trivial
theorem T.tw9336553579797362510 : True := trivial
theorem T.tw9346579980571463561 : True := trivial
theorem T.tw9402562068907726723 : True := trivial
theorem T.tw9423940441677382480 : True := trivial
theorem T.tw9443462927006442942 : True := trivial
theorem T.tw9459310642740600877 : True := trivial
theorem T.tw946590514805627168 : True := trivial
theorem T.tw9517472143268845518 : True := trivial
theorem T.tw9532646520055838456 : True := trivial
theorem T.tw9561277387145846007 : True := trivial
theorem T.tw9657371520700513191 : True := trivial
theorem T.tw9698777490186625958 : True := trivial
theorem T.tw9840143496991204503 : True := trivial
theorem T.tw9879588048826617833 : True := trivial
theorem T.tw9879792706161743993 : True := trivial
theorem T.tw9934218726757342027 : True := trivial
theorem T.tw9967666028893430234 : True := trivial
theorem T.tw9991206745402032329 : True := trivial
set_option Elab.async true in
theorem T : PySem.Challenge.rw_kq0058_01.Holds := by
  w_on
  o_law
  o_head (kmHook hd.heap_1 kAs kAs_eq [208, 89, 72, 242])
  case hw => w_witness2
  case hc => exact law_walk (by rfl)
end Mine
end
theorem PySem.Challenge.cw_kq0058_01_holds : PySem.Challenge.rw_kq0058_01.Holds :=
  Mine.T
