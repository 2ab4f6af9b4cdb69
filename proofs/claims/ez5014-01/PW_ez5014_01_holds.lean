import PyProof.Rows.All
import Wide.All
import OpenK.AllK
import Wide.FinOn
import PySem.Challenge.RW_ez5014_01
set_option Elab.async false
section
open PySem PySem.W PyProof.Rows
set_option Elab.async false
set_option maxRecDepth 100000
namespace Mine
set_option maxHeartbeats 8000000 in
open_top hd for PySem.Challenge.rw_ez5014_01
end Mine
end
section
open PySem PySem.W PyProof.Rows
set_option Elab.async false
set_option maxRecDepth 100000
set_option maxHeartbeats 4000000
namespace Mine
theorem slot_group : Slot "re.Match" "group" "re.Match.group" :=
  .of (owner := "re.Match") (n := "group") (by rw [typeLookup_type, builtinLookup_eq_fast]; kernel_rfl) (by decide +kernel) (by decide +kernel) (by decide +kernel)
    (by first | exact .inl (by decide +kernel) | exact .inr (by decide +kernel)) (by rw [isSubtype_type]; kernel_rfl)
theorem type_group : typeOf (.builtin "re.Match.group") = pure (.type "method_descriptor") := by show builtinType _ = _; rw [builtinType_eq_fast]; kernel_rfl
theorem entry_group : entryFor table "re.Match.group" = some Builtin.«re.Match.group» := entryFor_of_tree (by kernel_rfl)
theorem plainAttrs_match : PlainAttrs "re.Match" :=
  ⟨⟨"object.__getattribute__", by rw [typeLookup_type, builtinLookup_eq_fast]; kernel_rfl, by decide +kernel⟩, by rw [typeLookup_type, builtinLookup_eq_fast]; kernel_rfl⟩
theorem args_group (a b : Value) : argsOk "re.Match.group" ⟨[a, b], []⟩ := by
  unfold argsOk; kernel_rfl
theorem slot_sub : Slot "re.Pattern" "sub" "re.Pattern.sub" :=
  .of (owner := "re.Pattern") (n := "sub") (by rw [typeLookup_type, builtinLookup_eq_fast]; kernel_rfl) (by decide +kernel) (by decide +kernel) (by decide +kernel)
    (by first | exact .inl (by decide +kernel) | exact .inr (by decide +kernel)) (by rw [isSubtype_type]; kernel_rfl)
theorem type_sub : typeOf (.builtin "re.Pattern.sub") = pure (.type "method_descriptor") := by show builtinType _ = _; rw [builtinType_eq_fast]; kernel_rfl
theorem entry_sub : entryFor table "re.Pattern.sub" = some Builtin.«re.Pattern.sub» := entryFor_of_tree (by kernel_rfl)
theorem entry_loop : entryFor table "re.Pattern.sub.loop" = some Builtin.«re.Pattern.sub.loop» := entryFor_of_tree (by kernel_rfl)
theorem plainAttrs_pattern : PlainAttrs "re.Pattern" :=
  ⟨⟨"object.__getattribute__", by rw [typeLookup_type, builtinLookup_eq_fast]; kernel_rfl, by decide +kernel⟩, by rw [typeLookup_type, builtinLookup_eq_fast]; kernel_rfl⟩
theorem args_sub (a b c : Value) : argsOk "re.Pattern.sub" ⟨[a, b, c], []⟩ := by
  unfold argsOk; kernel_rfl

def matchO (x : PySem.Str) (tx : Tok) (pat : Value) (pos lim : Nat) (li : Int) (tp : Addr) : Obj := { cls := .type "re.Match", data := .fields #[.str x tx, pat, rawInt pos, rawInt lim, rawInt li, .ref tp] }
def spanO (a b c d : Nat) : Obj := { cls := .type "tuple", data := .seq #[rawInt a, rawInt b, rawInt c, rawInt d] }

section
variable {prog : Program} {w : World} {A : Around} {E : Value → Shared → Prop} {s : Shared}
theorem getMethod_group {mm tp : Addr} {x : PySem.Str} {tx : Tok} {pat : Value} {pos lim : Nat} {li : Int} {pl : Sem Bool} {Q : Value × List Value → Shared → Prop}
    (hm : s.heap.get? mm = some (matchO x tx pat pos lim li tp)) (h : Q (.builtin "re.Match.group", [.ref mm]) s) :
    wpAny (model prog w) A (getMethod (.ref mm) "group" pl) Q E s :=
  getMethod_builtin ⟨_, hm, rfl⟩ plainAttrs_match slot_group type_group (fun a e => by cases e; exact ⟨_, hm, rfl⟩) h

theorem call_group {mm tp : Addr} {x : PySem.Str} {tx : Tok} {pat : Value} {pos lim : Nat} {li : Int} {a b c d : Nat} {t : Tok} {Q : Value → Shared → Prop}
    (hm : s.heap.get? mm = some (matchO x tx pat pos lim li tp)) (ht : s.heap.get? tp = some (spanO a b c d)) (hx : x.length ≤ 10000)
    (h : ∀ t', Q (.str ⟨x.cps.extract c d⟩ t') { s with toks := s.toks + 1 }) :
    wpAny (model prog w) A (call (.builtin "re.Match.group") [.ref mm, .int 1 t]) Q E s := by
  refine wpAny_call_entry slot_group ⟨_, hm, rfl⟩ entry_group ?_ (args_group _ _)
  have hm' : s.heap.get? mm = some { cls := .type "re.Match", data := .fields #[.str x tx, pat, rawInt pos, rawInt lim, rawInt li, .ref tp] } := hm
  have ht' : s.heap.get? tp = some { cls := .type "tuple", data := .seq #[rawInt a, rawInt b, rawInt c, rawInt d] } := ht
  clear hm ht
  obtain ⟨hp, g, dr, tk, os⟩ := s
  have hc : ((decide (((c : Nat) : Int) < 0) || decide (((d : Nat) : Int) < 0)) = true) = False := by simp <;> omega
  have hz : ({ cps := x.cps.extract c d } : PySem.Str).length ≤ sizeLine := by
    show (x.cps.extract c d).size ≤ sizeLine
    rw [Array.size_extract]
    have : sizeLine = 16777216 := rfl
    have : x.cps.size ≤ 10000 := hx
    omega
  have e1 : (Array.map Builtin.Re.reRawOf ((some #[rawInt a, rawInt b, rawInt c, rawInt d]).getD #[])).getD (2 * Int.toNat 1) (-1) = (c : Int) := by with_unfolding_all rfl
  have e2 : (Array.map Builtin.Re.reRawOf ((some #[rawInt a, rawInt b, rawInt c, rawInt d]).getD #[])).getD (2 * Int.toNat 1 + 1) (-1) = (d : Int) := by with_unfolding_all rfl
  wp_walk
  simp only [e1, e2, Int.toNat_natCast]
  refine wpAny_ite_false (decide_eq_false (of_eq_false hc)) ?_
  wp_walk
  exact ⟨_, rfl, h _⟩
end
end Mine
end
section
open PySem PySem.W PyProof.Rows PySem.Calls PySem.NumText
set_option Elab.async false
set_option maxRecDepth 100000
set_option maxHeartbeats 4000000
namespace Mine
def hexPlace (c : Nat) : Int := if 48 ≤ c ∧ c ≤ 57 then (c : Int) - 48 else if 97 ≤ c ∧ c ≤ 102 then (c : Int) - 87 else if 65 ≤ c ∧ c ≤ 70 then (c : Int) - 49 else -1
def lawVal (v : Int) : List Nat → Int
  | [] => v
  | c :: r => if hexPlace c < 0 then -1 else lawVal (16 * v + (if hexPlace c < 16 then hexPlace c else hexPlace c - 6)) r
def hexD (c : Nat) : Nat := if 48 ≤ c ∧ c ≤ 57 then c - 48 else if 97 ≤ c ∧ c ≤ 102 then c - 87 else c - 55
def AllHex (l : List Nat) : Prop := ∀ c ∈ l, 0 ≤ hexPlace c

theorem hexD_of {c : Nat} (h : 0 ≤ hexPlace c) : ((hexD c : Nat) : Int) = (if hexPlace c < 16 then hexPlace c else hexPlace c - 6) ∧ hexD c < 16 := by
  unfold hexPlace at h
  unfold hexD hexPlace
  (repeat' split at h) <;> (repeat' split) <;> omega
theorem hex_range {c : Nat} (h : 0 ≤ hexPlace c) : (48 ≤ c ∧ c ≤ 57) ∨ (97 ≤ c ∧ c ≤ 102) ∨ (65 ≤ c ∧ c ≤ 70) := by
  unfold hexPlace at h
  (repeat' split at h) <;> omega

theorem digit_hex {c : Nat} (h : 0 ≤ hexPlace c) : digit? c = some (hexD c) := by
  have r := hex_range h
  unfold digit? hexD
  rcases r with r | r | r
  · rw [if_pos (by simp; omega), if_pos (by omega)]
  · rw [if_neg (by simp; omega), if_pos (by simp; omega), if_neg (by omega), if_pos (by omega)]
  · rw [if_neg (by simp; omega), if_neg (by simp; omega), if_pos (by simp; omega), if_neg (by omega), if_neg (by omega)]
theorem step_hex {ds : Array Nat} {b : Bool} {c : Nat} (h : 0 ≤ hexPlace c) : NumText.step 16 (ds, b) c = some (ds.push (hexD c), true) := by
  have r := hex_range h
  unfold NumText.step
  rw [if_neg (by rw [beq_iff_eq]; omega), digit_hex h]
  exact if_pos (hexD_of h).2
theorem foldl_hex : ∀ (cs : List Nat) (ds : Array Nat), AllHex cs → cs.foldlM (NumText.step 16) (ds, true) = some (cs.foldl (fun acc c => acc.push (hexD c)) ds, true)
  | [], _, _ => rfl
  | c :: cs, ds, h => by
    rw [List.foldlM_cons, step_hex (h c (.head _))]
    show cs.foldlM (NumText.step 16) (ds.push (hexD c), true) = _
    exact foldl_hex cs _ fun d hd => h d (.tail _ hd)
theorem digits_hex {cs : List Nat} (h : AllHex cs) (hne : cs ≠ []) : digits? 16 cs = some (cs.foldl (fun acc c => acc.push (hexD c)) #[]) := by
  cases cs with
  | nil => exact absurd rfl hne
  | cons c cs =>
    unfold digits?
    rw [List.foldlM_cons, step_hex (h c (.head _))]
    show (cs.foldlM (NumText.step 16) ((#[] : Array Nat).push (hexD c), true)).bind _ = _
    rw [foldl_hex cs _ fun d hd => h d (.tail _ hd)]
    rfl
theorem push_hex : ∀ (cs : List Nat) (ds : Array Nat), AllHex cs → (((cs.foldl (fun acc c => acc.push (hexD c)) ds).foldl (fun acc d => acc * 16 + d) 0 : Nat) : Int) = lawVal ((ds.foldl (fun acc d => acc * 16 + d) 0 : Nat) : Int) cs
  | [], _, _ => rfl
  | c :: cs, ds, h => by
    have hc := h c (.head _)
    rw [List.foldl_cons, push_hex cs (ds.push (hexD c)) fun d hd => h d (.tail _ hd), lawVal, if_neg (by omega), ← (hexD_of hc).1]
    congr 1
    simp
    omega
theorem dropWhile_hex {cs : List Nat} (h : AllHex cs) : cs.dropWhile blank = cs := by
  cases cs with
  | nil => rfl
  | cons c cs => exact dropWhile_of (by have := hex_range (h c (.head _)); omega)
theorem based_hex {cs : List Nat} (h : AllHex cs) : based 16 cs = (16, false, cs) := by
  unfold based
  split
  · rename_i p hp
    have hne : ((16 : Nat) == 0 || (16 : Nat) == p) = false := by
      unfold prefix? at hp
      split at hp
      · rename_i c r
        have hc := hex_range (h c (.tail _ (.head _)))
        rw [if_neg (by simp; omega), if_neg (by simp; omega)] at hp
        split at hp
        · cases hp; rfl
        · cases hp
      · cases hp
    rw [hne]; rfl
  · rfl
theorem read_hex {cs : List Nat} (h : AllHex cs) (hne : cs ≠ []) : (int_private% "readNumeral") 0 16 cs = (int_private% "Numeral.value") (lawVal 0 cs) := by
  refine (readNumeral_eq 0 16 cs).trans ?_
  have hs : sign cs = (false, cs) := by
    cases cs with
    | nil => exact absurd rfl hne
    | cons c cs => have := hex_range (h c (.head _)); exact sign_of (by omega) (by omega)
  have hr : (cs.reverse.dropWhile blank).reverse = cs := by
    rw [dropWhile_hex (fun c hc => h c (List.mem_reverse.mp hc)), List.reverse_reverse]
  rw [dropWhile_hex h, hs]
  dsimp only
  rw [based_hex h]
  dsimp only
  rw [hr, digits_hex h hne]
  have e := push_hex cs #[] h
  have e0 : ((#[] : Array Nat).foldl (fun acc d => acc * 16 + d) 0 : Nat) = 0 := rfl
  rw [e0] at e
  show judge 0 false 16 false (some _) = _
  unfold judge
  dsimp only
  rw [if_neg (by simp), if_neg (by simp)]
  simp only [Bool.false_and, Bool.false_eq_true, if_false]
  rw [e]
  rfl
theorem wp_text16 {M : Model} {A : Around} {E : Value → Shared → Prop} {s : Shared} {Q : Value → Shared → Prop} {v : Value} {text : List Nat} (h : AllHex text) (hne : text ≠ []) (hl : text.length ≤ 640)
    (hq : Q (.int (lawVal 0 text) s.toks) { s with toks := s.toks + 1 }) :
    wpAny M A ((int_private% "intFromText") v text 16) Q E s := by
  have ht : text.takeWhile (· != 0) = text := takeWhile_all fun c hc => by
    have := hex_range (h c hc)
    simp; omega
  have hs : (text.takeWhile (· != 0)).length ≤ 640 := by rw [ht]; exact hl
  have ha : ((text.takeWhile (· != 0)).length == text.length) = true := by rw [ht]; exact beq_self_eq_true _
  have hr := read_hex h hne
  rw [← ht] at hr
  rw [ht] at hr
  obtain ⟨hp, g, d, tk, os⟩ := s
  repeat (any_goals (first
    | assumption
    | (with_reducible refine wpAny_ite_true (decide_eq_true hs) ?_)
    | (with_reducible refine wpAny_ite_true (decide_eq_true ha) ?_)
    | wp_step))
  all_goals (try rw [ht, hr])
  all_goals (try dsimp only)
  repeat (any_goals (first
    | assumption
    | (with_reducible refine wpAny_ite_true (decide_eq_true hs) ?_)
    | (with_reducible refine wpAny_ite_true (decide_eq_true ha) ?_)
    | wp_step))

theorem all_ascii {x : PySem.Str} (h : AllHex x.cps.toList) : x.cps.all (· < 128) = true := by
  rw [Array.all_eq_true]
  intro i hi
  have := hex_range (h x.cps[i] (by simp))
  simp; omega
theorem gives_text16 {x : PySem.Str} {u v : Tok} (h : AllHex x.cps.toList) (hne : x.cps.toList ≠ []) (hl : x.length ≤ 640) : Gives (Builtin.«int.__new__» ⟨[.type "int", .str x u, .int 16 v], []⟩) (.int (lawVal 0 x.cps.toList)) :=
  .of_wp fun M A E s Q hq => by
    obtain ⟨hp, g, d, tk, os⟩ := s
    have f1 := F.conv_sub_int
    have f2 := F.madeHere_int
    have f6 : typeOf (.str x u) = pure (.type "str") := rfl
    have hk := KIN.Hid.mk (And.intro (And.intro h hne) (And.intro hl (all_ascii h)))
    clear h hne hl
    repeat (any_goals (first
      | assumption
      | ((with_reducible show wpAny _ _ ((int_private% "intFromText") _ _ _) _ _ _); (try rw [if_pos hk.out.2.2]); refine wp_text16 hk.out.1.1 hk.out.1.2 (by rw [Array.length_toList]; exact hk.out.2.1) ?_)
      | wp_step))
    all_goals first | exact ⟨_, rfl, hq⟩ | skip
theorem typeCall_int_2 (a b : Value) : checkTypeCall "int" ⟨[a, b], []⟩ = pure () := by kernel_rfl
theorem newCall_int_2 (a b : Value) : checkBuiltinCall "int.__new__" ⟨[.type "int", a, b], []⟩ = pure () := by kernel_rfl
theorem args_object_init_3 (a b c : Value) : argsOk "object.__init__" ⟨[a, b, c], []⟩ := by
  unfold argsOk; kernel_rfl
section
variable {prog : Program} {w : World} {A : Around} {E : Value → Shared → Prop} {s : Shared}
theorem call_int16 {x : PySem.Str} {u v : Tok} {Q : Value → Shared → Prop} (h : AllHex x.cps.toList) (hne : x.cps.toList ≠ []) (hl : x.length ≤ 640)
    (hq : Q (.int (lawVal 0 x.cps.toList) s.toks) { s with toks := s.toks + 1 }) : wpAny (model prog w) A (call (.type "int") [.str x u, .int 16 v]) Q E s :=
  callType_new F.called_int F.newNe_int (typeCall_int_2 _ _) (newCall_int_2 _ _) (fun obj => args_object_init_3 obj _ _) F.entry_int_new (gives_text16 h hne hl).meets (show (Made.int _).post _ s from ⟨rfl, hq⟩)

theorem chr_raises {i : Int} {t : Tok} {Q : Value → Shared → Prop} (hi : 0x10FFFF < i) (hh : A.handled = none)
    (h : ∀ h' tk e, Heap.NewExc s.heap h' e "ValueError" → E (.ref e) { s with heap := h', toks := tk }) :
    wpAny (model prog w) A (call (.builtin "chr") [.int i t]) Q E s := by
  refine call_function_entry F.kind_chr F.plain_chr F.entry_chr (F.args_chr1 _) ?_
  have hc : ((decide (i < 0) || decide (i > 0x10FFFF)) = true) := by simp; omega
  unfold Builtin.«chr»
  obtain ⟨hp, g, d, tk, os⟩ := s
  wp_walk
  exact wpAny_raiseErrorWords plainExc_ValueError hh fun h' tk e hx => h h' tk e hx
end
end Mine
end
section
theorem Mine.fresh_V1 : True := by
  w_top off
  k_with_none
  trivial
open PySem PySem.W PyProof.Rows
set_option Elab.async false
set_option maxRecDepth 100000
set_option maxHeartbeats 1000000
namespace Mine
abbrev PG : Program := PySem.Challenge.rw_ez5014_01.row.prog

theorem find_hex (n : Nat) : PySem.Txt.find (PySem.Str.ofString "0123456789abcdefABCDEF") ⟨#[n]⟩ = hexPlace n := by
  by_cases h : n < 128
  · exact (by decide +kernel : ∀ n : Fin 128, PySem.Txt.find (PySem.Str.ofString "0123456789abcdefABCDEF") ⟨#[n.1]⟩ = hexPlace n.1) ⟨n, h⟩
  · have e := PySem.StrLaws.found_one (PySem.Str.ofString "0123456789abcdefABCDEF") n
    have e2 : decide (n ∈ (PySem.Str.ofString "0123456789abcdefABCDEF").cps.toList) = false := by
      rw [decide_eq_false_iff_not]
      intro hm
      exact h ((by decide +kernel : ∀ c ∈ (PySem.Str.ofString "0123456789abcdefABCDEF").cps.toList, c < 128) n hm)
    rw [e2] at e
    have e3 : hexPlace n = -1 := by unfold hexPlace; repeat' split <;> try omega
    rw [e3]
    unfold PySem.Txt.find
    cases h4 : PySem.Builtin.Str.occurrences (PySem.Str.ofString "0123456789abcdefABCDEF") ⟨#[n]⟩ 0 (PySem.Str.ofString "0123456789abcdefABCDEF").length 1 with
    | nil => rfl
    | cons a b => rw [h4] at e; simp at e
theorem hexPlace_lt (n : Nat) : hexPlace n < 22 := by unfold hexPlace; repeat' split <;> omega
theorem hexPlace_ge (n : Nat) : -1 ≤ hexPlace n := by unfold hexPlace; repeat' split <;> omega

def LvI (pre : List Int) (v : Int) : Prop := (∀ post : List Nat, lawVal 0 (pre.map Int.toNat ++ post) = lawVal v post) ∧ 0 ≤ v ∧ v < 16 ^ pre.length
theorem codes_split {x : PySem.Str} {pre post : List Int} {n : Nat} (h : KStt.codes x = pre ++ (n : Int) :: post) : x.cps.toList = pre.map Int.toNat ++ n :: post.map Int.toNat := by
  have := congrArg KStt.txt h
  rw [KStt.txt_codes] at this
  rw [this]
  simp [KStt.txt]
theorem lv_turn {pre : List Int} {v : Int} {n : Nat} {d : Int} (hI : LvI pre v) (h0 : ¬ PySem.Txt.find (PySem.Str.ofString "0123456789abcdefABCDEF") ⟨#[n]⟩ < 0)
    (hd : d = if hexPlace n < 16 then hexPlace n else hexPlace n - 6) : LvI (pre ++ [(n : Int)]) (16 * v + d) := by
  rw [find_hex] at h0
  obtain ⟨h1, h2, h3⟩ := hI
  have h4 := hexPlace_lt n
  have hd' : 0 ≤ d ∧ d < 16 := by subst hd; split <;> omega
  refine ⟨fun post => ?_, by omega, ?_⟩
  · rw [List.map_append, List.append_assoc, h1]
    show lawVal v (n :: post) = _
    rw [lawVal, if_neg h0, hd]
  · rw [List.length_append, List.length_cons, List.length_nil, Int.pow_succ]
    omega
theorem lv_turn1 {pre : List Int} {v : Int} {n : Nat} (hI : LvI pre v) (h0 : ¬ PySem.Txt.find (PySem.Str.ofString "0123456789abcdefABCDEF") ⟨#[n]⟩ < 0)
    (h1 : PySem.Txt.find (PySem.Str.ofString "0123456789abcdefABCDEF") ⟨#[n]⟩ < 16) : LvI (pre ++ [(n : Int)]) (16 * v + PySem.Txt.find (PySem.Str.ofString "0123456789abcdefABCDEF") ⟨#[n]⟩) := by
  refine lv_turn hI h0 ?_
  rw [find_hex] at *
  rw [if_pos h1]
theorem lv_turn2 {pre : List Int} {v : Int} {n : Nat} (hI : LvI pre v) (h0 : ¬ PySem.Txt.find (PySem.Str.ofString "0123456789abcdefABCDEF") ⟨#[n]⟩ < 0)
    (h1 : ¬ PySem.Txt.find (PySem.Str.ofString "0123456789abcdefABCDEF") ⟨#[n]⟩ < 16) : LvI (pre ++ [(n : Int)]) (16 * v + (PySem.Txt.find (PySem.Str.ofString "0123456789abcdefABCDEF") ⟨#[n]⟩ - 6)) := by
  refine lv_turn hI h0 ?_
  rw [find_hex] at *
  rw [if_neg h1]
theorem lv_all {pre : List Int} {v : Int} (h : LvI pre v) : LvI pre v ∧ 0 ≤ v ∧ v < 16 ^ pre.length := ⟨h, h.2.1, h.2.2⟩
theorem lv_start : LvI [] 0 := ⟨fun _ => rfl, by decide, by decide⟩
theorem lv_done {x : PySem.Str} {v : Int} (h : LvI (KStt.codes x) v) : lawVal 0 x.cps.toList = v := by
  have := h.1 []
  rw [List.append_nil] at this
  rw [show x.cps.toList = (KStt.codes x).map Int.toNat from ?_, this]
  · rfl
  · have e := congrArg (fun y : PySem.Str => y.cps.toList) (KStt.txt_codes x)
    simp only [KStt.txt] at e
    exact e.symm
theorem lv_early {x : PySem.Str} {pre post : List Int} {n : Nat} {v : Int} (he : KStt.codes x = pre ++ (n : Int) :: post) (hI : LvI pre v) (h0 : PySem.Txt.find (PySem.Str.ofString "0123456789abcdefABCDEF") ⟨#[n]⟩ < 0) : lawVal 0 x.cps.toList = -1 := by
  rw [find_hex] at h0
  rw [codes_split he, hI.1, lawVal, if_pos h0]

set_option pp.maxSteps 50000 in
theorem law_value_ok (w : World) (p : Program) (loose : List PySem.Str) (mean : ExcName → Option Value) (mg mb : PySem.Str → Option Value) (news : List (Addr × Obj)) (x : PySem.Str) (t : Tok) :
    CbClaim PySem.Challenge.rw_ez5014_01.row.prog w (Mine.hd.heap_39 w.params) p loose mean mg mb 196 news [] (x.length ≤ 1000) [.str x t] (fun t => .int (lawVal 0 x.cps.toList) t) := by
  k_fill
  dsimp only [CbClaim, CbLists, CbRet]
  intro dp un gd cn cs a ccd cl outer A₀ base h₀ L m s Q E B F X N T hk hx hd hu hret
  refine wpAny_call ?_
  k_dflt cell_enter
  k_with "state" => first | exact lv_all lv_start | exact lv_all (lv_turn1 (by assumption) (by assumption) (by assumption)) | exact lv_all (lv_turn2 (by assumption) (by assumption) (by assumption))
  k_with "pyIter str" => k_state (fun pre v => LvI pre v ∧ 0 ≤ v ∧ v < 16 ^ pre.length) "value"
  k_steps
  all_goals first | exact cb_retI hret (lv_early (by assumption) (by assumption) (by assumption)).symm (by assumption) (cb_drop (by assumption) (by intro p hp; simp [hp])) | exact cb_retI hret (lv_done (by assumption)).symm (by assumption) (by assumption) | skip
end Mine
end
section
theorem Mine.fresh_X1 : True := by
  w_top off
  k_with_none
  trivial
open PySem PySem.W PyProof.Rows
set_option Elab.async false
set_option maxRecDepth 100000
set_option maxHeartbeats 8000000
namespace Mine
local macro_rules | `(tactic| walk_at "getMethod ref") => `(tactic| (k_here; (with_reducible show wpAny _ _ (getMethod (Value.ref _) (Str.ofString "group") _) _ _ _); (with_unfolding_all refine' getMethod_group ?k1 ?_; (case k1 => exact News.get (by k_asm) (by k_mem))); k_whole))
local macro_rules | `(tactic| walk_at "call builtin:re.Match.group") => `(tactic| (k_here; (with_unfolding_all refine' call_group ?k1 ?k2 ?k3 ?_; (case k1 => exact News.get (by k_asm) (by k_mem)); (case k2 => exact News.get (by k_asm) (by k_mem)); (case k3 => assumption)); k_whole; intro t'))
local macro_rules | `(tactic| walk_at "call type:int") => `(tactic| (k_here; (refine call_int16 (by assumption) (by assumption) (by assumption) ?_)))

set_option pp.maxSteps 50000 in
theorem expand_ok (w : World) (p : Program) (loose : List PySem.Str) (mean : ExcName → Option Value) (mg mb : PySem.Str → Option Value) (news : List (Addr × Obj)) (x : PySem.Str) (tx : Tok) (pat : Value) (pos lim : Nat) (li : Int) (mm tp : Addr) (a b c d : Nat)
  (dp un : Nat) (gd : Option (List Code)) (cn : PySem.Str) (cs : Scope) (a' : Addr) (ccd : Value) (cl : List (PySem.Str × Addr)) (outer : List Env) (A₀ : Around) (base h₀ : Heap) (L : Addr) (m : PySem.Str → Option Value) (s : Shared) (Q E : Value → Shared → Prop)
    (B : Below A₀ base outer h₀) (F : Fr h₀ L s.heap m) (N : News h₀ L s.heap ((mm, matchO x tx pat pos lim li tp) :: (tp, spanO a b c d) :: news)) (T : Top p loose mean mg mb h₀) (hk : cs.kind = .function)
     (hd : dp + 1 < recursionLimit) (hu : un + 8 < cLine) (hx : x.length ≤ 10000) (h1 : AllHex (⟨x.cps.extract c d⟩ : PySem.Str).cps.toList) (h2 : (⟨x.cps.extract c d⟩ : PySem.Str).cps.toList ≠ []) (h3 : (⟨x.cps.extract c d⟩ : PySem.Str).length ≤ 640)
     (hv : lawVal 0 (⟨x.cps.extract c d⟩ : PySem.Str).cps.toList ≤ 1114111) (hv0 : 0 ≤ lawVal 0 (⟨x.cps.extract c d⟩ : PySem.Str).cps.toList)
     (hret : ∀ t h' tk', Fr h₀ L h' m → News h₀ L h' ((mm, matchO x tx pat pos lim li tp) :: (tp, spanO a b c d) :: news) → Q (.str ⟨#[(lawVal 0 (⟨x.cps.extract c d⟩ : PySem.Str).cps.toList).toNat]⟩ t) { s with heap := h', toks := tk' }) : (Mine.hd.heap_39 w.params).In h₀ →
      wpAny (model PySem.Challenge.rw_ez5014_01.row.prog w) (ktrTop dp un gd cn cs L a' ccd cl outer) (call (.ref 45) [.ref mm]) Q E s := by
  k_fill
  intro X
  refine wpAny_call ?_
  k_dflt cell_enter
  k_steps
  exact hret _ _ _ (by assumption) (by assumption)
end Mine
end
section
open PySem PySem.W PyProof.Rows PySem.Calls
set_option Elab.async false
set_option maxRecDepth 100000
set_option maxHeartbeats 4000000
namespace Mine
theorem funFrames_hide_self {base h : Heap} {l : List Env} (x : h.FunFrames base l) : h.FunFrames (hideAll h (l.filterMap (·.frame))) l :=
  funFrames_hide x fun env he b hb => List.mem_filterMap.mpr ⟨env, he, hb⟩
section
variable {prog : Program} {w : World} {A₀ : Around} {E : Value → Shared → Prop} {s' : Shared} {base g g₂ h : Heap} {outer : List Env} {L a e : Addr} {m : PySem.Str → Option Value} {name : PySem.Str} {scope : Scope} {cd : Value} {news : List (Addr × Obj)}

/-- the heap without what the call has made -/
def under (h : Heap) (news : List (Addr × Obj)) : Heap := hideAll h (news.map (·.1))
theorem under_fr (F : Fr g L h m) (N : News g L h news) : Fr g L (under h news) m := by
  obtain ⟨oL, es, ep, hL, hLd, hLk, hLf⟩ := F.ns
  refine ⟨⟨oL, es, ep, hideAll_get _ hL fun q => ?_, hLd, hLk, hLf⟩, fun b o e => hideAll_get _ (F.keep b o e) fun q => ?_, F.above⟩
  · obtain ⟨p, hp, e⟩ := List.mem_map.mp q
    exact (N p hp).2.1 e
  · obtain ⟨p, hp, rfl⟩ := List.mem_map.mp q
    rw [(N p hp).2.2] at e; cases e

/-- the ground under a raise: the frames' own dicts hidden -/
theorem ground_of (K : Below A₀ base outer g) (F : Fr g L h m) (N : News g L h news) (hk : scope.kind = .function) :
    base.StaysIn (hideAll h ((envOf name scope L a cd :: outer).filterMap (·.frame))) ∧
    (∀ b o, (under h news).get? b = some o → b ∉ (envOf name scope L a cd :: outer).filterMap (·.frame) → (hideAll h ((envOf name scope L a cd :: outer).filterMap (·.frame))).get? b = some o) ∧
    (∀ q ∈ news, (hideAll h ((envOf name scope L a cd :: outer).filterMap (·.frame))).get? q.1 = some q.2 ∧ (under h news).get? q.1 = none ∧ base.get? q.1 = none) ∧
    h.FunFrames (hideAll h ((envOf name scope L a cd :: outer).filterMap (·.frame))) (envOf name scope L a cd :: outer) := by
  have K' := K.push (name := name) (a := a) (cd := cd) F hk
  refine ⟨fun b o q => hideAll_get _ (K'.stays b o q) fun hm => ?_, fun b o q nm => hideAll_get _ (of_hideAll _ q) nm, fun q hq => ⟨hideAll_get _ (N q hq).1 fun hm => ?_, hideAll_none _ (List.mem_map_of_mem hq), fresh_of_stays K.stays (N q hq).2.2⟩, ?_⟩
  · rw [(K'.frames.mem hm).1] at q; cases q
  · rcases kts_mem hm with z | z
    · exact (N q hq).2.1 z
    · obtain ⟨o, ho, _⟩ := (K.frames.mem z).2
      rw [(N q hq).2.2] at ho; cases ho
  · exact funFrames_hide_self K'.frames

theorem dicts_push (D : KtsDicts (outer.filterMap (·.frame)) g) (F : Fr g L h m) (N : News g L h news) : KtsDicts ((envOf name scope L a cd :: outer).filterMap (·.frame)) (under h news) := fun b hm => by
  have F' := under_fr F N
  rcases kts_mem hm with z | z
  · obtain ⟨oL, es, ep, hL, hLd, _⟩ := F'.ns
    exact ⟨oL, es, ep, z ▸ hL, hLd⟩
  · obtain ⟨o, es, n, ho, hd⟩ := D b z
    exact ⟨o, es, n, F'.keep _ _ ho, hd⟩
theorem dicts_push' {g' : Heap} (D : KtsDicts (outer.filterMap (·.frame)) g) (F : Fr g L g' m) : KtsDicts ((envOf name scope L a cd :: outer).filterMap (·.frame)) g' := fun b hm => by
  rcases kts_mem hm with z | z
  · obtain ⟨oL, es, ep, hL, hLd, _⟩ := F.ns
    exact ⟨oL, es, ep, z ▸ hL, hLd⟩
  · obtain ⟨o, es, n, ho, hd⟩ := D b z
    exact ⟨o, es, n, F.keep _ _ ho, hd⟩
end
end Mine
end
section
open PySem PySem.W PyProof.Rows PySem.Calls
set_option Elab.async false
set_option maxRecDepth 100000
set_option maxHeartbeats 4000000
namespace Mine
/-- what no step of an exception's flight turns: class, object dict, the third field (the context) -/
def Core (o o' : Obj) : Prop := o'.cls = o.cls ∧ o'.dict = o.dict ∧ o'.isFreed = o.isFreed ∧ ∀ vs, o.data = .fields vs → ∃ vs', o'.data = .fields vs' ∧ vs'[2]? = vs[2]?
theorem Core.refl (o : Obj) : Core o o := ⟨rfl, rfl, rfl, fun vs h => ⟨vs, h, rfl⟩⟩
theorem Core.trans {a b c : Obj} (x : Core a b) (y : Core b c) : Core a c :=
  ⟨y.1.trans x.1, y.2.1.trans x.2.1, y.2.2.1.trans x.2.2.1, fun vs h => let ⟨v1, h1, e1⟩ := x.2.2.2 vs h; let ⟨v2, h2, e2⟩ := y.2.2.2 v1 h1; ⟨v2, h2, e2.trans e1⟩⟩
def CoreKept (h h' : Heap) : Prop := ∀ b o, h.get? b = some o → ∃ o', h'.get? b = some o' ∧ Core o o'
theorem CoreKept.refl (h : Heap) : CoreKept h h := fun _ o e => ⟨o, e, .refl o⟩
theorem CoreKept.trans {a b c : Heap} (x : CoreKept a b) (y : CoreKept b c) : CoreKept a c := fun q _ e =>
  let ⟨_, e1, c1⟩ := x q _ e; let ⟨o2, e2, c2⟩ := y q _ e1; ⟨o2, e2, c1.trans c2⟩
theorem CoreKept.of_keeps {h h' : Heap} (k : ∀ b o, h.get? b = some o → h'.get? b = some o) : CoreKept h h' := fun b o e => ⟨o, k b o e, .refl o⟩

def Flat {α : Type} : Sem α → Prop
  | .pure _ | .raise _ | .unsupported _ | .finish _ => True
  | .rule _ k => Flat (k ())
  | .at _ k => Flat (k ())
  | .load _ _ k => ∀ o, Flat (k o)
  | .update _ _ f k => (∀ o, Core o (f o)) ∧ Flat (k ())
  | .alloc _ k => ∀ a, Flat (k a)
  | .loadIfAlive _ k => ∀ o, Flat (k o)
  | .point _ k => Flat (k ())
  | .register _ _ => True
  | .fresh k => ∀ t, Flat (k t)
  | .ask k => ∀ x, Flat (k x)
  | .choose _ _ k => ∀ n, Flat (k n)
  | .os _ _ k => ∀ r, Flat (k r)
  | .call .. => False
  | .handled _ k => ∀ x, Flat (k x)
  | .newGen _ k => ∀ x, Flat (k x)
  | .genState _ k => ∀ x, Flat (k x)
  | .resume .. => False
  | .yield .. => True
  | .stack k => ∀ x, Flat (k x)
  | .fork .. => True
  | .thread k => ∀ x, Flat (k x)
  | .await .. => True
theorem get_update {h : Heap} {a b : Addr} {o : Obj} {f : Obj → Obj} (hf : ∀ o, Core o (f o)) (e : h.get? b = some o) : ∃ o', (h.update a f).get? b = some o' ∧ Core o o' := by
  by_cases q : a = b
  · subst q
    exact ⟨_, Heap.get?_update_self _ e ((hf o).2.2.1.trans (Heap.get?_some_iff.mp e).2), hf o⟩
  · exact ⟨o, (Heap.get?_update_other _ _ q).trans e, .refl o⟩
theorem Flat.kept {α : Type} {M : Model} {Γ : Ctx} {t : Sem α} {Q : α → Pos → Shared → Prop} {E : Value → Pos → Shared → Prop} (ft : Flat t) : ∀ {p : Pos} {s : Shared}, Sem.wp M Γ t Q E p s →
    Sem.wp M Γ t (fun a p' s' => Q a p' s' ∧ CoreKept s.heap s'.heap) (fun e p' s' => E e p' s' ∧ CoreKept s.heap s'.heap) p s := by
  have step : ∀ {k : Sem α} {p : Pos} {s s₁ : Shared}, CoreKept s.heap s₁.heap → Sem.wp M Γ k (fun a p' s' => Q a p' s' ∧ CoreKept s₁.heap s'.heap) (fun e p' s' => E e p' s' ∧ CoreKept s₁.heap s'.heap) p s₁ →
      Sem.wp M Γ k (fun a p' s' => Q a p' s' ∧ CoreKept s.heap s'.heap) (fun e p' s' => E e p' s' ∧ CoreKept s.heap s'.heap) p s₁ := fun {k p s s₁} c w =>
    Sem.wp_mono M Γ k (fun _ _ _ h => ⟨h.1, c.trans h.2⟩) (fun _ _ _ h => ⟨h.1, c.trans h.2⟩) p s₁ w
  induction t with
  | pure a => intro p s h; exact ⟨h, .refl _⟩
  | raise e => intro p s h; exact ⟨h, .refl _⟩
  | unsupported | finish | yield | fork | await | register => intro p s h; exact h.elim
  | call | resume => exact ft.elim
  | rule _ k ih | point _ k ih | «at» _ k ih => intro p s h; exact ih () ft h
  | load a _ k ih => intro p s ⟨o, ho, h⟩; exact ⟨o, ho, ih o (ft o) h⟩
  | genState g k ih => intro p s ⟨o, ho, h⟩; exact ⟨o, ho, ih _ (ft _) h⟩
  | update a _ f k ih => intro p s ⟨ha, h⟩; exact ⟨ha, step (fun b o e => get_update ft.1 e) (ih () ft.2 h)⟩
  | alloc o k ih => intro p s h; exact step (s := s) (s₁ := { s with heap := s.heap.push o }) (CoreKept.of_keeps fun b o' e => Heap.get?_push_of_some _ e) (ih _ (ft _) h)
  | loadIfAlive a k ih => intro p s h; exact ih _ (ft _) h
  | fresh k ih => intro p s h; exact step (s := s) (CoreKept.refl _) (ih _ (ft _) h)
  | ask k ih => intro p s h; exact ih _ (ft _) h
  | choose _ _ k ih => intro p s ⟨hn, h⟩; exact ⟨hn, step (s := s) (CoreKept.refl _) (ih _ (ft _) h)⟩
  | os _ _ k ih => intro p s h; exact step (s := s) (CoreKept.refl _) (ih _ (ft _) h)
  | handled _ k ih => intro p s h; exact ih _ (ft _) h
  | newGen _ k ih => intro p s h; exact step (s := s) (CoreKept.refl _) (ih _ (ft _) h)
  | stack k ih => intro p s h; exact ih _ (ft _) h
  | thread k ih => intro p s h; exact ih _ (ft _) h
theorem wpAny_kept {α : Type} {M : Model} {A : Around} {t : Sem α} {Q : α → Shared → Prop} {E : Value → Shared → Prop} {s : Shared} (ft : Flat t) (h : wpAny M A t (fun a s' => CoreKept s.heap s'.heap → Q a s') E s) : wpAny M A t Q E s :=
  fun Γ p hΓ => Sem.wp_mono M Γ t (fun _ _ _ x => x.1 x.2) (fun _ _ _ x => x.1) p s (ft.kept (h Γ p hΓ))

theorem Flat.bind {α β : Type} {m : Sem α} {f : α → Sem β} (hm : Flat m) (hf : ∀ a, Flat (f a)) : Flat (m >>= f) := by
  show Flat (m.bind f)
  induction m with
  | pure a => exact hf a
  | raise | unsupported | finish | yield | fork | await | register => trivial
  | call | resume => exact hm.elim
  | rule _ k ih | point _ k ih | «at» _ k ih => exact ih () hm
  | update _ _ _ k ih => exact ⟨hm.1, ih () hm.2⟩
  | load _ _ k ih | genState _ k ih | alloc _ k ih | loadIfAlive _ k ih | fresh k ih | ask k ih | choose _ _ k ih | os _ _ k ih | handled _ k ih | newGen _ k ih | stack k ih | thread k ih => exact fun x => ih x (hm x)

theorem flat_fieldsOf (v : Value) : Flat (fieldsOf v) := by
  unfold fieldsOf
  split
  · refine Flat.bind (fun o => trivial) fun o => ?_
    split <;> trivial
  · trivial
theorem flat_field (v : Value) (i : Nat) : Flat (field v i) := by
  unfold field
  refine Flat.bind (flat_fieldsOf v) fun vs => ?_
  split <;> trivial
theorem core_field {i : Nat} {v : Value} (hi : i ≠ 2) (o : Obj) : Core o (Obj.mapFields (·.setIfInBounds i v) o) := by
  obtain ⟨c, d, dt, sl⟩ := o
  cases dt <;> first | exact .refl _ | skip
  refine ⟨rfl, rfl, rfl, fun vs h => ?_⟩
  injection h with h
  subst h
  exact ⟨_, rfl, by rw [Array.getElem?_setIfInBounds_ne hi]⟩
theorem flat_updateField (a : Addr) {i : Nat} (v : Value) (hi : i ≠ 2) : Flat (updateField a i v) := by
  unfold updateField
  refine Flat.bind (fun o => trivial) fun o => ?_
  split
  · split
    · exact ⟨core_field hi, trivial⟩
    · trivial
  · trivial
theorem flat_setField (x : Value) {i : Nat} (v : Value) (hi : i ≠ 2) : Flat (setField x i v) := by
  unfold setField
  split
  · exact flat_updateField _ _ hi
  · trivial
theorem flat_setFlight (e : Value) (f : Option Addr) : Flat (setFlight e f) := by
  unfold setFlight
  refine Flat.bind (flat_field _ _) fun tb => ?_
  split
  · exact flat_setField _ _ (by decide)
  · trivial
theorem flat_readyFrames : ∀ l : List Env, Flat (readyFrames l)
  | [] => trivial
  | env :: outer => by
    unfold readyFrames
    split
    · refine Flat.bind (fun o => trivial) fun o => ?_
      split
      · trivial
      · refine Flat.bind ?_ fun b => Flat.bind ?_ fun back => Flat.bind (m := update _ _) ⟨fun o => ⟨rfl, rfl, ?_, fun vs h => ⟨vs, h, rfl⟩⟩, trivial⟩ fun _ => flat_readyFrames outer
        · unfold behindIsImport
          split
          · trivial
          · split
            · trivial
            · exact Flat.bind (flat_field _ _) fun _ => trivial
        · unfold keptBack
          split
          · split
            · trivial
            · refine Flat.bind ?_ fun _ => trivial
              unfold underTheClaimsCaller
              exact Flat.bind (fun _ => trivial) fun _ => trivial
          · trivial
        · exact kts_isFreed _ _
    · trivial
theorem flat_frameOf (env : Env) : Flat (PySem.frameOf env) := by
  unfold PySem.frameOf
  refine Flat.bind ?_ fun l => Flat.bind ?_ fun f => ?_
  · unfold frameEnvs
    exact Flat.bind (fun _ => trivial) fun _ => trivial
  · unfold frameObject
    split
    · trivial
    · exact Flat.bind (flat_readyFrames _) fun _ => trivial
  · split <;> trivial
theorem flat_place (f : Addr) (b : Bool) : Flat (entryPlaceOf f b) := by
  unfold entryPlaceOf
  refine Flat.bind (fun _ => trivial) fun acts => ?_
  split <;> trivial
theorem flat_newEntry (a b c d e : Value) (pl : List Value) : Flat (EntryCells.newEntry a b c d e pl) := by
  unfold EntryCells.newEntry newFields newObj
  split <;> (repeat' split) <;> first | trivial | (unfold newObjAsIs; exact Flat.bind (fun _ => trivial) fun _ => trivial)
theorem flat_note (e : Value) (env : Env) : Flat (noteFrame e env) := by
  unfold noteFrame
  split
  · refine Flat.bind (flat_field _ _) fun head => ?_
    have rest : ∀ b, Flat (do let a ← PySem.frameOf env; let pl ← entryPlaceOf (env.frame.getD 0) b; let x ← EntryCells.newEntry head a .none (rawInt (env.frame.getD 0)) .none pl; setField e 1 x) := fun b =>
      Flat.bind (flat_frameOf _) fun _ => Flat.bind (flat_place _ _) fun _ => Flat.bind (flat_newEntry ..) fun _ => flat_setField _ _ (by decide)
    split
    · refine Flat.bind (flat_field _ _) fun fl => ?_
      split
      · trivial
      · refine Flat.bind (flat_setField _ _ (by decide)) fun _ => ?_
        exact Flat.bind (flat_frameOf _) fun _ => Flat.bind (flat_place _ _) fun _ => Flat.bind (flat_newEntry ..) fun _ => flat_setField _ _ (by decide)
    · exact Flat.bind (flat_frameOf _) fun _ => Flat.bind (flat_place _ _) fun _ => Flat.bind (flat_newEntry ..) fun _ => flat_setField _ _ (by decide)
  · trivial
theorem flat_leaving (env : Env) (e : Value) : Flat (leaving env e) := by
  unfold leaving
  exact Flat.bind (flat_note _ _) fun _ => flat_setFlight _ _
end Mine
end
section
open PySem PySem.W PyProof.Rows PySem.Calls
set_option Elab.async false
set_option maxRecDepth 100000
set_option maxHeartbeats 4000000
namespace Mine
/-- an exception's own object: its class, its object dict, its context -/
def Xo (cls : Value) (dx : Option Addr) (ctx : Value) (o : Obj) : Prop := o.cls = cls ∧ o.dict = dx ∧ ∃ vs, o.data = .fields vs ∧ vs[2]? = some ctx
theorem Xo.core {cls ctx : Value} {dx : Option Addr} {o o' : Obj} (x : Xo cls dx ctx o) (c : Core o o') : Xo cls dx ctx o' := by
  obtain ⟨h1, h2, vs, h3, h4⟩ := x
  obtain ⟨vs', h5, h6⟩ := c.2.2.2 vs h3
  exact ⟨c.1.trans h1, c.2.1.trans h2, vs', h5, h6.trans h4⟩
def Xat (h : Heap) (e : Addr) (cls : Value) (dx : Option Addr) (ctx : Value) : Prop := ∃ o, h.get? e = some o ∧ Xo cls dx ctx o
theorem Xat.kept {h h' : Heap} {e : Addr} {cls ctx : Value} {dx : Option Addr} (x : Xat h e cls dx ctx) (c : CoreKept h h') : Xat h' e cls dx ctx := by
  obtain ⟨o, ho, xo⟩ := x
  obtain ⟨o', ho', co⟩ := c e o ho
  exact ⟨o', ho', xo.core co⟩
/-- an exception in flight over the frames l, the ground G -/
def Fly (base G : Heap) (l : List Env) (e : Addr) (cls : Value) (dx : Option Addr) (ctx : Value) (news : List (Addr × Obj)) (h : Heap) : Prop :=
  RaisedSN base G l e cls news h ∧ Xat h e cls dx ctx ∧ G.UpToSlots h

section
variable {prog : Program} {w : World} {A₀ : Around} {E : Value → Shared → Prop} {s' : Shared} {base g g₀ g₂ h G : Heap} {outer : List Env} {L a e : Addr} {m : PySem.Str → Option Value} {name : PySem.Str} {scope : Scope} {cd cls ctx : Value} {dx : Option Addr}
  {n : PySem.Str} {b₀ : Stmt} {suite : List Stmt} {pos : Pos} {rest hs : List ExceptHandler} {news : List (Addr × Obj)} {KF : Frag} {tt : Expr} {nm : Option PySem.Str} {body : List Stmt}
  {p : Program} {loose : List PySem.Str} {mean : ExcName → Option Value} {mg mb : PySem.Str → Option Value}

/-- an exception leaves one more frame -/
theorem fly_on {Q : Unit → Shared → Prop} (K : Below A₀ base outer g) (F : Fr g L g₂ m) (R : Fly base g₂ (envOf name scope L a cd :: outer) e cls dx ctx news s'.heap)
    (hQ : ∀ h', Fly base g outer e cls dx ctx news h' → Q () { s' with heap := h' }) :
    wpAny (model prog w) (A₀.deeper (envOf name scope L a cd)) (leaving (envOf name scope L a cd) (.ref e)) Q E s' :=
  wpAny_kept (flat_leaving _ _) (leave_onSN K F R.1 R.2.2 fun h' r _ u c => hQ h' ⟨r, R.2.1.kept c, u⟩)

/-- an exception that the frame itself has just raised leaves it: h is the heap before it was made -/
theorem fly_first {Q : Unit → Shared → Prop} {vs : Array Value} {oe : Obj} {a0 : Value} (K : Below A₀ base outer g) (he : s'.heap.get? e = some oe) (hx : Xo cls dx ctx oe) (hd : oe.data = .fields vs) (h0 : vs[0]? = some a0) (h1 : vs[1]? = some .none)
    (hk' : ∀ b o, h.get? b = some o → s'.heap.get? b = some o) (hen : h.get? e = none) (F : Fr g L h m) (N : News g L h news) (hk : scope.kind = .function)
    (hQ : ∀ h', Fly base g outer e cls dx ctx news h' → Q () { s' with heap := h' }) :
    wpAny (model prog w) (A₀.deeper (envOf name scope L a cd)) (leaving (envOf name scope L a cd) (.ref e)) Q E s' := by
  have K' := K.push (name := name) (a := a) (cd := cd) F hk
  obtain ⟨st, sg, hl, ff⟩ := ground_of (name := name) (a := a) (cd := cd) K F N hk
  have hen' : (hideAll h ((envOf name scope L a cd :: outer).filterMap (·.frame))).get? e = none := by
    cases q : (hideAll h ((envOf name scope L a cd :: outer).filterMap (·.frame))).get? e with
    | none => rfl
    | some o => have := of_hideAll _ q; rw [hen] at this; cases this
  refine wpAny_kept (flat_leaving _ _) (wpAny_leaving_firstW K'.stack (ff.of_keeps fun b o hb _ => ⟨o, hk' b o hb, rfl⟩) rfl he (fun b o hb => hk' b o (of_hideAll _ hb)) hen' hd h1 h0 fun h' hL c => ?_)
  obtain ⟨k1, ⟨_, _, k2⟩, k3, k4⟩ := hL
  have hn : ∀ q ∈ news, g.get? q.1 = none := fun q hq => (N q hq).2.2
  refine hQ h' ⟨⟨_, a0, st, fun b o q nm => hideAll_get _ (F.keep b o q) fun hm => ?_, fun q hq => ⟨(hl q hq).1, hn q hq, (hl q hq).2.2⟩, k1, hen', k2, by rw [← hx.1]; exact k3⟩, Xat.kept ⟨oe, he, hx⟩ c, ?_⟩
  · rcases kts_mem hm with z | z
    · rw [z, kts_self F] at q; cases q
    · exact nm z
  · exact (Heap.UpToSlots.of_keeps F.keep).trans ((Heap.UpToSlots.of_keeps hk').trans fun b o hb hn => k4 b o hb hn)

/-- an exception that a built-in has raised in this very frame comes to the frame's own try -/
theorem fly_note {c : String} {Q : Flow → Shared → Prop} (K : Below A₀ base outer g) (hx : Heap.NewExc h s'.heap e c) (hx' : Xat s'.heap e (.type c) dx ctx) (F : Fr g L h m) (N : News g L h news)
    (k : ∀ h', Fly base (under h news) (envOf name scope L a cd :: outer) e (.type c) dx ctx news h' → Fr g L (under h news) m → wpAny (model prog w) (A₀.deeper (envOf name scope L a cd)) (handleBy (.ref e) (envOf name scope L a cd) hs) Q E { s' with heap := h' }) (hk : scope.kind = .function := by rfl) :
    wpAny (model prog w) (A₀.deeper (envOf name scope L a cd)) (noteFrame (.ref e) (envOf name scope L a cd))
      (fun _ s₂ => wpAny (model prog w) (A₀.deeper (envOf name scope L a cd)) (setFlight (.ref e) none) (fun _ s₃ =>
        wpAny (model prog w) (A₀.deeper (envOf name scope L a cd)) (handleBy (.ref e) (envOf name scope L a cd) hs) Q E s₃) E s₂) E s' := by
  obtain ⟨st, sg, hl, ff⟩ := ground_of (name := name) (a := a) (cd := cd) K F N hk
  obtain ⟨ob, tp, he, hcls, hd⟩ := hx.there
  have hen : (hideAll h ((envOf name scope L a cd :: outer).filterMap (·.frame))).get? e = none := by
    cases q : (hideAll h ((envOf name scope L a cd :: outer).filterMap (·.frame))).get? e with
    | none => rfl
    | some o => have := of_hideAll _ q; rw [hx.new] at this; cases this
  have K' := K.push (name := name) (a := a) (cd := cd) F hk
  refine wpAny_kept (flat_note _ _) ?_
  unfold noteFrame
  simp only [show (envOf name scope L a cd).frame = some L from rfl]
  refine wpAny_bind (wpAny_field he hd (x := .none) rfl ?_)
  rw [if_neg (by decide)]
  refine wpAny_entryW (a0 := tp) K'.stack (ff.of_keeps fun b o hb _ => ⟨o, hx.keeps b o hb, rfl⟩) rfl he (fun b o hb => hx.keeps b o (of_hideAll _ hb)) hen hd (by show 1 < 6; decide) rfl fun h' hN c1 => ?_
  obtain ⟨k1, k2, k3, k4⟩ := hN
  refine wpAny_kept (flat_setFlight _ _) (wpAny_landsW (L := L) (cls := .type c) (a0 := tp) ⟨k1, hen, k2, by rw [← hcls]; exact k3⟩ fun h₅ hf hsm c2 => ?_)
  refine k h₅ ⟨⟨_, tp, st, sg, hl, hf⟩, (hx'.kept c1).kept c2, ?_⟩ (under_fr F N)
  exact Heap.UpToSlots.trans (Heap.UpToSlots.of_keeps fun b o q => of_hideAll _ q) ((Heap.UpToSlots.of_keeps hx.keeps).trans (Heap.UpToSlots.trans (fun b o hb hn => k4 b o hb hn) hsm))

/-- an exception that comes from a callee to the frame's own try -/
theorem fly_look {Q : Flow → Shared → Prop} (K : Below A₀ base outer g) (F : Fr g L G m) (R : Fly base G (envOf name scope L a cd :: outer) e cls dx ctx news s'.heap)
    (k : ∀ h', Fly base G (envOf name scope L a cd :: outer) e cls dx ctx news h' → wpAny (model prog w) (A₀.deeper (envOf name scope L a cd)) (handleBy (.ref e) (envOf name scope L a cd) hs) Q E { s' with heap := h' }) :
    wpAny (model prog w) (A₀.deeper (envOf name scope L a cd)) (noteFrame (.ref e) (envOf name scope L a cd))
      (fun _ s₂ => wpAny (model prog w) (A₀.deeper (envOf name scope L a cd)) (setFlight (.ref e) none) (fun _ s₃ =>
        wpAny (model prog w) (A₀.deeper (envOf name scope L a cd)) (handleBy (.ref e) (envOf name scope L a cd) hs) Q E s₃) E s₂) E s' := by
  obtain ⟨⟨B, a0, hB, hBG, hl, hfl⟩, X, U⟩ := R
  refine wpAny_kept (flat_note _ _) (wpAny_looks_onW (Around.frames_deeper K.stack) rfl hfl fun h₄ hheld₄ hsm₄ c1 => ?_)
  refine wpAny_kept (flat_setFlight _ _) (wpAny_landsW hheld₄ fun h₅ hheld hsm₅ c2 => ?_)
  exact k h₅ ⟨⟨B, a0, hB, hBG, hl, hheld⟩, (X.kept c1).kept c2, U.trans (hsm₄.trans hsm₅)⟩

theorem Fly.keeps {l : List Env} {h' : Heap} (R : Fly base G l e cls dx ctx news h) (k : ∀ b o, h.get? b = some o → h'.get? b = some o) : Fly base G l e cls dx ctx news h' :=
  ⟨R.1.keeps k, R.2.1.kept (CoreKept.of_keeps k), R.2.2.trans (Heap.UpToSlots.of_keeps k)⟩

/-- the suite's own first step: from here a new ground serves, and the exception is of the ledger -/
theorem fly_lands {A : Around} {Q : Unit → Shared → Prop} (R : Fly base G (envOf name scope L a cd :: outer) e cls dx ctx news s'.heap) (F : Fr g L G m) (K : Below A₀ base outer g) (XB : KF.In base) (TB : Top p loose mean mg mb base) (D : KtsDicts (outer.filterMap (·.frame)) g)
    (k : ∀ h' g' oe, KtsTurn (outer.filterMap (·.frame)) g g' → Fr g' L h' m → News g' L h' ((e, oe) :: news) → Xo cls dx ctx oe → Below A₀ base outer g' → KF.In g' → Top p loose mean mg mb g' → KtsDicts (outer.filterMap (·.frame)) g' → Q () { s' with heap := h' }) :
    wpAny (model prog w) A (setFlight (.ref e) none) Q E s' := by
  obtain ⟨⟨B, a0, hB, hBG, hl, hfl⟩, X, U⟩ := R
  refine wpAny_kept (flat_setFlight _ _) (lands_againW hfl fun h₁ hfl₁ hsm₁ c => ?_)
  have U₁ := U.trans hsm₁
  obtain ⟨g₁, T₁, F₁, K₁⟩ := kts_ground K F hBG hfl₁.1 U₁
  obtain ⟨oe, hoe, xo⟩ := X.kept c
  obtain ⟨vs, hv, _⟩ := xo.2.2
  have hL : B.get? L = none := by
    obtain ⟨_, ⟨L', _, hf, hn, _⟩, _⟩ := hfl₁.2.2.1
    cases hf
    exact hn
  have ne₁ : g₁.get? e = none := T₁.none_ _ (kts_fresh F hBG hfl₁.2.1 fun o ho hm => by
    obtain ⟨o', es, n', ho', hd⟩ := D _ hm
    rw [ho] at ho'
    cases ho'
    obtain ⟨sl, hs⟩ := U₁ _ _ (F.keep _ _ ho) fun vs q => by rw [hd] at q; cases q
    rw [hoe] at hs
    cases hs
    exact absurd (hd.symm.trans hv) (by intro q; cases q))
  have N₁ : News g₁ L h₁ news := fun q hq => ⟨hfl₁.1 _ _ (hl q hq).1, (fun z => by have := (hl q hq).1; rw [z, hL] at this; cases this), T₁.none_ _ (kts_none F.keep (hl q hq).2.1)⟩
  exact k h₁ g₁ oe T₁ F₁ (News.more F₁ N₁ hoe (fun es n q => by rw [hv] at q; cases q) ne₁) xo K₁ (XB.keeps K₁.stays) (TB.keeps K₁.stays) (D.turn T₁)

/-- a clause's test that is met -/
theorem fly_test {A : Around} {R' : Result → Shared → Prop} (R : Fly base G (envOf name scope L a cd :: outer) e cls dx ctx news s'.heap) (F : Fr g L G m) (K : Below A₀ base outer g) (XB : KF.In base) (TB : Top p loose mean mg mb base)
    (T : KtsTest prog w KF p loose mg mb name scope L a cd cls tt true) (k : ∀ h', Fly base G (envOf name scope L a cd :: outer) e cls dx ctx news h' → R' (.ok .brk) { s' with heap := h' }) :
    codeAny (model prog w) A (.handlers (.ref e) [.ExceptHandler (some tt) none [] pos] (envOf name scope L a cd)) R' s' := by
  obtain ⟨B, a0, hB, hBG, hl, hfl⟩ := id R.1
  obtain ⟨g₁, _, F₁, K₁⟩ := kts_ground K F hBG hfl.1 R.2.2
  exact codeAny_handlers_test (T _ _ _ _ g₁ e m F₁ (XB.keeps K₁.stays) (topRead_of (TB.keeps K₁.stays)) R.1.ty fun h₅ kp => k h₅ (R.keeps kp))

/-- the clause takes it (no name): the suite, over a new ground -/
theorem fly_hit {Q : Flow → Shared → Prop} (R : Fly base G (envOf name scope L a cd :: outer) e cls dx ctx news s'.heap) (F : Fr g L G m) (K : Below A₀ base outer g) (XB : KF.In base) (TB : Top p loose mean mg mb base)
    (D : KtsDicts (outer.filterMap (·.frame)) g) (T : KtsTest prog w KF p loose mg mb name scope L a cd cls tt true)
    (k : ∀ h' g' oe, KtsTurn (outer.filterMap (·.frame)) g g' → Fr g' L h' m → News g' L h' ((e, oe) :: news) → Xo cls dx ctx oe → Below A₀ base outer g' → KF.In g' → Top p loose mean mg mb g' → KtsDicts (outer.filterMap (·.frame)) g' →
      wpAny (model prog w) ((A₀.deeper (envOf name scope L a cd)).mark (some (.ref e))) (execs (b₀ :: suite) (envOf name scope L a cd)) Q E { s' with heap := h' })
    (hE : PassesOwnAt (model prog w) ((A₀.deeper (envOf name scope L a cd)).mark (some (.ref e))) (A₀.deeper (envOf name scope L a cd)) (envOf name scope L a cd) E := by passes_own) :
    wpAny (model prog w) (A₀.deeper (envOf name scope L a cd)) (handleBy (.ref e) (envOf name scope L a cd) (.ExceptHandler (some tt) none (b₀ :: suite) pos :: rest)) Q E s' :=
  wpAny_handleBy_cons (fly_test R F K XB TB T fun _ R₁ => codeAny_handlers_suite (fly_lands R₁ F K XB TB D fun h₁ g₁ oe T₁ F₁ N₁ xo K₁ X₁ P₁ D₁ =>
    wpAny_passesOwnAt hE (k h₁ g₁ oe T₁ F₁ N₁ xo K₁ X₁ P₁ D₁))) (by intro q; cases q)

/-- the clause takes it and binds a name -/
theorem fly_hitAs {Q : Flow → Shared → Prop} (R : Fly base G (envOf name scope L a cd :: outer) e cls dx ctx news s'.heap) (F : Fr g L G m) (K : Below A₀ base outer g) (XB : KF.In base) (TB : Top p loose mean mg mb base)
    (D : KtsDicts (outer.filterMap (·.frame)) g) (T : KtsTest prog w KF p loose mg mb name scope L a cd cls tt true)
    (k : ∀ h' g' oe tk, KtsTurn (outer.filterMap (·.frame)) g g' → Fr g' L h' (fun y => if y = n then some (.ref e) else m y) → News g' L h' ((e, oe) :: news) → Xo cls dx ctx oe → Below A₀ base outer g' → KF.In g' → Top p loose mean mg mb g' → KtsDicts (outer.filterMap (·.frame)) g' →
      wpAny (model prog w) ((A₀.deeper (envOf name scope L a cd)).mark (some (.ref e))) (execs (b₀ :: suite) (envOf name scope L a cd))
        (fun f s₄ => wpAny (model prog w) (A₀.deeper (envOf name scope L a cd)) (do bindName (envOf name scope L a cd) n .none; unbindBehindTheSuite (envOf name scope L a cd) n pos) (fun _ s₅ => Q f s₅) E s₄)
        (AsSuiteRaised (model prog w) ((A₀.deeper (envOf name scope L a cd)).mark (some (.ref e))) (envOf name scope L a cd) n pos (notedBy (model prog w) ((A₀.deeper (envOf name scope L a cd)).mark (some (.ref e))) (envOf name scope L a cd) (cameBackBy (model prog w) (A₀.deeper (envOf name scope L a cd)) (envOf name scope L a cd) E)))
        { s' with heap := h', toks := tk })
    (hk : scope.kind = .function := by rfl) (hlo : (envOf name scope L a cd).kindOf n = some .local := by rfl) :
    wpAny (model prog w) (A₀.deeper (envOf name scope L a cd)) (handleBy (.ref e) (envOf name scope L a cd) (.ExceptHandler (some tt) (some n) (b₀ :: suite) pos :: rest)) Q E s' :=
  wpAny_handleBy_cons (fly_test R F K XB TB T fun _ R₁ => codeAny_handlers_suite_as (fly_lands R₁ F K XB TB D fun h₁ g₁ oe T₁ F₁ N₁ xo K₁ X₁ P₁ D₁ =>
    stN F₁ N₁ (fun h₂ F₂ N₂ => k h₂ g₁ oe _ T₁ F₂ N₂ xo K₁ X₁ P₁ D₁) hk hlo)) (by intro q; cases q)
end
end Mine
end
section
open PySem PySem.W PyProof.Rows PySem.Calls
set_option Elab.async false
set_option maxRecDepth 100000
set_option maxHeartbeats 4000000
namespace Mine
theorem entry_unchain : entryFor table "proto.unchain" = some Builtin.«proto.unchain» := entryFor_of_tree (by kernel_rfl)
def raiseGo (xv : Value) : Sem Flow := do
  let e ← excFromValue xv "exceptions must derive from BaseException"
  let e ← if ← isType xv then holding [e] (raisedFor xv e) else raisedInstance e
  setFlight e none
  raiseNew e
section
variable {prog : Program} {w : World} {A : Around} {E : Value → Shared → Prop} {s : Shared} {env : Env}
theorem Raise_go {x : PySem.Expr} {pos : Pos} {Q : Flow → Shared → Prop} (h : wpAny (model prog w) A (eval x env) (fun v s₁ => wpAny (model prog w) A (raiseGo v) Q E s₁) E s) :
    wpAny (model prog w) A (exec (.Raise (some x) none pos) env) Q E s := by
  rw [arm_exec_Raise]
  refine wpAny_bind (wpAny_standAt ?_)
  show wpAny _ _ (raiseStmt env (some _) none) _ _ _
  unfold raiseStmt
  refine wpAny_bind (wpAny_bind (wpAny_mono h (fun v s₁ h₁ => wpAny_bind (wpAny_standAt (wpAny_pure ?_))) fun _ _ x => x))
  refine wpAny_bind (wpAny_pure ?_)
  exact h₁

/-- the chain of contexts above a raised exception ends and does not meet it -/
inductive Ctxs (h : Heap) (e : Addr) : Value → Prop where
  | one {x : Addr} {o : Obj} {vs : Array Value} : x ≠ e → h.get? x = some o → o.data = .fields vs → vs[2]? = some .none → Ctxs h e (.ref x)
  | two {x y : Addr} {o o' : Obj} {vs vs' : Array Value} : x ≠ e → y ≠ e → y ≠ x → h.get? x = some o → o.data = .fields vs → vs[2]? = some (.ref y) → h.get? y = some o' → o'.data = .fields vs' → vs'[2]? = some .none → Ctxs h e (.ref x)

theorem new_in {α : Type} {e : Addr} {x : Value} {Q : α → Shared → Prop} {oe : Obj} {vs : Array Value} (hA : A.handled = some x) (hc : Ctxs s.heap e x) (he : s.heap.get? e = some oe) (hd : oe.data = .fields vs) (hs : 2 < vs.size)
    (h : E (.ref e) { s with heap := s.heap.update e (Obj.mapFields (·.setIfInBounds 2 x)) }) : wpAny (model prog w) A (raiseNew (.ref e) : Sem α) Q E s := by
  unfold raiseNew
  refine wpAny_bind (wpAny_handled ?_)
  rw [hA]
  have fin : wpAny (model prog w) A (do updateField e 2 x; (throw (Value.ref e) : Sem α)) Q E s := by
    refine wpAny_bind (wpAny_setField he hd hs ?_)
    exact wpAny_throw h
  have q0 : ∀ args, (Code.builtin "proto.unchain" args).quiet = true := fun args => plainId_quiet (by decide +kernel) args
  have last : ∀ (A' : Around) (v o slow : Value) (b : Bool) {y : Addr} {oy : Obj} {ws : Array Value} (R : Result → Shared → Prop), o = .ref y → s.heap.get? y = some oy → oy.data = .fields ws → ws[2]? = some .none → R (.ok (.ret .none)) s →
      codeAny (model prog w) A' (.builtin "proto.unchain" ⟨[v, o, slow, .bool b], []⟩) R s := by
    intro A' v o slow b y oy ws R ho hy hdy h2 hR
    subst ho
    refine codeAny_builtin entry_unchain ?_
    unfold Builtin.«proto.unchain»
    refine wpAny_bind (wpAny_field hy hdy h2 ?_)
    rw [if_pos (by decide)]
    exact wpAny_pure hR
  cases hc with
  | @one x o us hne hx hdx h2 =>
    have : ((Value.ref x != Value.ref e) = true) := by simp [hne]
    dsimp only
    rw [if_pos this]
    refine wpAny_bind (wpAny_holding (wpAny_runValue (last _ _ _ _ _ _ rfl hx hdx h2 ?_)))
    exact fin
  | @two x y o o' us us' hne hye hyx hx hdx h2 hy hdy h3 =>
    have : ((Value.ref x != Value.ref e) = true) := by simp [hne]
    dsimp only
    rw [if_pos this]
    refine wpAny_bind (wpAny_holding (wpAny_runValue (codeAny_builtin entry_unchain ?_)))
    unfold Builtin.«proto.unchain»
    refine wpAny_bind (wpAny_field hx hdx h2 ?_)
    rw [if_neg (by simp), if_neg (by simp [hye]), if_neg (by simp [hyx])]
    refine wpAny_bind (wpAny_pure (wpAny_pure ⟨q0 _, last _ _ _ _ _ _ rfl hy hdy h3 ?_⟩))
    exact fin
theorem call_Exception {v : Value} {Q : Value → Shared → Prop} (h : ∀ h' e, Heap.MadeExc s.heap h' e "Exception" [v] → Q (.ref e) { s with heap := h' }) : wpAny (model prog w) A (call (.type "Exception") [v]) Q E s := by
  obtain ⟨hp, g, d, tk, os⟩ := s
  exact wpAny_call_exc PySem.F.excBase_Exception.toExcCallFacts (fun h' e hm => h h' e hm) (show 1 ≤ sizeLine by decide)
/-- the raise of an object of a built-in class -/
theorem go_type {cls : String} {e t : Addr} {Q : Flow → Shared → Prop} (F : ExcRaiseFacts cls) (he : s.heap.get? e = some { cls := .type cls, data := .fields #[.ref t, .none, .none, .none, .bool false, .none] })
    (h : wpAny (model prog w) A (raiseNew (.ref e) : Sem Flow) Q E s) : wpAny (model prog w) A (raiseGo (.ref e)) Q E s := by
  obtain ⟨hp, g, d, tk, os⟩ := s
  have hsub := F.isExc
  have hmeta := F.plainMeta
  unfold raiseGo
  repeat (first | assumption | refine wpAny_loadPart he ?_ | wp_step)

/-- in a clause's suite, a fresh object of a built-in class is raised and leaves the frame -/
theorem raise_leaves {cls : String} {A₀ : Around} {base g h : Heap} {outer : List Env} {L a e x : Addr} {ox : Obj} {m : PySem.Str → Option Value} {name : PySem.Str} {scope : Scope} {cd c0 : Value} {dx : Option Addr} {news : List (Addr × Obj)} {args : List Value}
    {Q : Flow → Shared → Prop} {Q1 : Value → Unit → Shared → Prop} {E1 : Value → Value → Shared → Prop} (FX : ExcRaiseFacts cls) (hm : Heap.MadeExc h s.heap e cls args) (hA : A.handled = some (.ref x)) (K : Below A₀ base outer g) (F : Fr g L h m) (N : News g L h news) (hx : (x, ox) ∈ news) (xo : Xo c0 dx .none ox)
    (hk : scope.kind = .function) (k : ∀ h', Fly base g outer e (.type cls) none (.ref x) news h' → Q1 (.ref e) () { s with heap := h' }) :
    wpAny (model prog w) A (raiseGo (.ref e)) Q (fun e s' => wpAny (model prog w) (A₀.deeper (envOf name scope L a cd)) (leaving (envOf name scope L a cd) e) (Q1 e) (E1 e) s') s := by
  obtain ⟨t, he, ht, htt⟩ := hm.there
  have hxe : x ≠ e := fun q => by
    have := (N _ hx).1
    rw [show ((x, ox) : Addr × Obj).1 = e from q, hm.new] at this
    cases this
  obtain ⟨_, _, vs, hv, h2⟩ := xo
  refine go_type FX he (new_in hA (.one hxe (hm.keeps _ _ (N _ hx).1) hv h2) he rfl (show 2 < 6 by decide) ?_)
  refine fly_first (h := h) (oe := Obj.mapFields (·.setIfInBounds 2 (.ref x)) { cls := .type cls, data := .fields #[.ref t, .none, .none, .none, .bool false, .none] }) (vs := #[.ref t, .none, .ref x, .none, .bool false, .none]) (a0 := .ref t) K
    (Heap.get?_update_self _ he rfl) ⟨rfl, rfl, _, rfl, rfl⟩ rfl rfl rfl (fun b o hb => ?_) hm.new F N hk k
  refine (Heap.get?_update_other _ _ fun q => ?_).trans (hm.keeps b o hb)
  rw [← q, hm.new] at hb
  cases hb

/-- the caller's ground, turned as the callee's was -/
theorem ground_up {A₀ : Around} {base h₀ g g' : Heap} {outer : List Env} {L a : Addr} {m : PySem.Str → Option Value} {name : PySem.Str} {scope : Scope} {cd : Value} (K : Below A₀ base outer h₀) (F : Fr h₀ L g m)
    (T : KtsTurn ((envOf name scope L a cd :: outer).filterMap (·.frame)) g g') : ∃ h₁, KtsTurn (outer.filterMap (·.frame)) h₀ h₁ ∧ Fr h₁ L g' m ∧ Below A₀ base outer h₁ :=
  kts_ground (name := name) (scope := scope) (a := a) (cd := cd) (B := hideAll g' ((envOf name scope L a cd :: outer).filterMap (·.frame))) K F (fun b o e nm => hideAll_get _ (T.other b o e nm) nm) (fun b o e => of_hideAll _ e) (fun b o e _ => T.up e)
end
end Mine
end
section
theorem Mine.fresh_X2 : True := by
  w_top off
  k_with_none
  trivial
open PySem PySem.W PyProof.Rows
set_option Elab.async false
set_option maxRecDepth 100000
set_option maxHeartbeats 1000000
namespace Mine
local macro_rules | `(tactic| walk_at "getMethod ref") => `(tactic| (k_here; (with_reducible show wpAny _ _ (getMethod (Value.ref _) (Str.ofString "group") _) _ _ _); (with_unfolding_all refine' getMethod_group ?k1 ?_; (case k1 => exact News.get (by k_asm) (by k_mem))); k_whole))
local macro_rules | `(tactic| walk_at "call builtin:re.Match.group") => `(tactic| (k_here; (with_unfolding_all refine' call_group ?k1 ?k2 ?k3 ?_; (case k1 => exact News.get (by k_asm) (by k_mem)); (case k2 => exact News.get (by k_asm) (by k_mem)); (case k3 => assumption)); k_whole; intro t'))
local macro_rules | `(tactic| walk_at "call type:int") => `(tactic| (k_here; (refine call_int16 (by assumption) (by assumption) (by assumption) ?_)))

local macro_rules | `(tactic| walk_at "call type:Exception") => `(tactic| (k_here; (refine call_Exception ?_); intro h' e' hm'))
local macro_rules | `(tactic| walk_at "exec Raise some none") => `(tactic| (k_here; (refine Raise_go ?_)))
local macro_rules | `(tactic| walk_at "call builtin:chr") => `(tactic| (k_here; (refine chr_raises (by assumption) rfl ?_); intro h' tk' e' hx'))
set_option pp.maxSteps 50000 in
theorem expand_raises (w : World) (p : Program) (loose : List PySem.Str) (mean : ExcName → Option Value) (mg mb : PySem.Str → Option Value) (news : List (Addr × Obj)) (x : PySem.Str) (tx : Tok) (pat : Value) (pos lim : Nat) (li : Int) (mm tp : Addr) (a b c d : Nat)
  (dp un : Nat) (gd : Option (List Code)) (cn : PySem.Str) (cs : Scope) (a' : Addr) (ccd : Value) (cl : List (PySem.Str × Addr)) (outer : List Env) (A₀ : Around) (base h₀ : Heap) (L : Addr) (m : PySem.Str → Option Value) (s : Shared) (Q E : Value → Shared → Prop)
    (B : Below A₀ base outer h₀) (F : Fr h₀ L s.heap m) (N : News h₀ L s.heap ((mm, matchO x tx pat pos lim li tp) :: (tp, spanO a b c d) :: news)) (T : Top p loose mean mg mb h₀) (TB : Top p loose mean mg mb base) (D : KtsDicts (outer.filterMap (·.frame)) h₀) (hk : cs.kind = .function)
     (hd : dp + 1 < recursionLimit) (hu : un + 8 < cLine) (hx : x.length ≤ 10000) (h1 : AllHex (⟨x.cps.extract c d⟩ : PySem.Str).cps.toList) (h2 : (⟨x.cps.extract c d⟩ : PySem.Str).cps.toList ≠ []) (h3 : (⟨x.cps.extract c d⟩ : PySem.Str).length ≤ 640)
     (hv : 1114111 < lawVal 0 (⟨x.cps.extract c d⟩ : PySem.Str).cps.toList)
     (hraise : ∀ h₁ G e e1 oe1 dx h' tk', KtsTurn (outer.filterMap (·.frame)) h₀ h₁ → Fr h₁ L G m → Below A₀ base outer h₁ → Fly base G (envX cn cs L a' ccd cl :: outer) e (.type "Exception") none (.ref e1) ((e1, oe1) :: (mm, matchO x tx pat pos lim li tp) :: (tp, spanO a b c d) :: news) h' →
       Xo (.type "ValueError") dx .none oe1 → E (.ref e) { s with heap := h', toks := tk' }) : (Mine.hd.heap_39 w.params).In h₀ → (Mine.hd.heap_39 w.params).In base →
      wpAny (model PySem.Challenge.rw_ez5014_01.row.prog w) (ktrTop dp un gd cn cs L a' ccd cl outer) (call (.ref 45) [.ref mm]) Q E s := by
  k_fill
  intro X XB
  refine wpAny_call ?_
  k_dflt cell_enter
  k_steps
  rename Heap.NewExc _ _ _ _ => hx'
  rename Below _ _ (_ :: _) _ => B'
  rename Fr h₀ L _ _ => FG'
  rename Fr _ _ _ _ => F'
  rename News _ _ _ _ => N'
  have D' := dicts_push' (name := cn) (scope := cs) (a := a') (cd := ccd) D FG'
  obtain ⟨ob, tp', he', hc', hd'⟩ := hx'.there
  have hx2 := (⟨ob, he', hc', rfl, _, hd', rfl⟩ : Xat _ _ (.type "ValueError") ob.dict .none)
  refine fly_note B' hx' hx2 F' N' (fun h₂ R₂ F₂ => ?_)
  refine fly_hit R₂ F₂ B' XB TB D' (test_name (c := .type "Exception") (.inr ⟨by k_is, PyProof.Rows.Boot.«Exception», by decide⟩) (by kts_exm) rfl rfl (by decide)) ?_
  intro h₃ g₃ oe T₃ F₃ N₃ xo B₃ X₃ P₃ D₃
  k_steps
  rename Heap.MadeExc _ _ _ _ _ => hm'
  rename Fr g₃ _ _ _ => F₄
  rename News g₃ _ _ _ => N₄
  show wpAny _ _ _ _ (fun e s' => wpAny _ _ (leaving _ e) _ _ s') _
  refine' raise_leaves PySem.F.excRaise_Exception hm' ?hA B₃ F₄ N₄ ?hx xo ?hk ?k
  case hA => rfl
  case hk => rfl
  case hx => k_mem
  intro h₅ R₅
  obtain ⟨h₁, T₁, F₁, B₁⟩ := ground_up (name := cn) (scope := cs) (a := a') (cd := ccd) B FG' T₃
  exact hraise h₁ g₃ _ _ _ _ _ _ T₁ F₁ B₁ R₅ xo
end Mine
end
section
open PySem PySem.W PyProof.Rows PySem.Calls PySem.Sre
set_option Elab.async false
set_option maxRecDepth 100000
set_option maxHeartbeats 2000000
namespace Mine
/-- the compiled pattern: a backslash, the letter u, k figures of sixteen, kept as group 1 -/
def code (u k : Nat) : Array Nat := #[14, 10, 1, k + 2, k + 2, 2, 2, 92, u, 0, 0, 16, 92, 16, u, 17, 0, 24, 16, k, k, 13, 11, 9, 0, 67043328, 126, 126, 0, 0, 0, 0, 0, 1, 17, 1, 1]

def isHexB (c : Nat) : Bool := decide (0 ≤ hexPlace c)
theorem charset_hex (c : Nat) (u k : Nat) : (decide (c < 256) && ((code u k).getD (23 + (1 + c / 32)) 0).testBit (c % 32)) = isHexB c := by
  by_cases h : c < 256
  · have hq : c / 32 < 8 := by omega
    have key : ∀ c : Fin 256, ((#[0, 67043328, 126, 126, 0, 0, 0, 0] : Array Nat).getD (c.1 / 32) 0).testBit (c.1 % 32) = isHexB c.1 := by decide +kernel
    have e : (code u k).getD (23 + (1 + c / 32)) 0 = (#[0, 67043328, 126, 126, 0, 0, 0, 0] : Array Nat).getD (c / 32) 0 := by
      have : c / 32 = 0 ∨ c / 32 = 1 ∨ c / 32 = 2 ∨ c / 32 = 3 ∨ c / 32 = 4 ∨ c / 32 = 5 ∨ c / 32 = 6 ∨ c / 32 = 7 := by omega
      rcases this with q | q | q | q | q | q | q | q <;> rw [q] <;> rfl
    rw [decide_eq_true h, Bool.true_and, e]
    exact key ⟨c, h⟩
  · rw [decide_eq_false h, Bool.false_and]
    have : hexPlace c < 0 := by unfold hexPlace; repeat' split <;> omega
    unfold isHexB
    rw [decide_eq_false (by omega)]

theorem inSet_hex (u k c : Nat) (sn : Sre.Seen) : ∃ sn', inSet (code u k) c (code u k).size 23 true sn = .ok (isHexB c, sn') := by
  have h := charset_hex c u k
  show ∃ sn', inSet (code u k) c 37 23 true sn = .ok (isHexB c, sn')
  unfold inSet
  simp only [show ((code u k).getD (23 + 0) 0) = 9 from rfl, show ops[9]? = some Op.CHARSET from rfl, h]
  cases hb : isHexB c with
  | true => exact ⟨_, rfl⟩
  | false =>
    simp only [Bool.false_eq_true, if_false]
    unfold inSet
    simp only [show ((code u k).getD (23 + 9 + 0) 0) = 0 from rfl, show ops[0]? = some Op.FAILURE from rfl]
    exact ⟨_, rfl⟩
theorem accepts_hex (u k c : Nat) (sn : Sre.Seen) : ∃ sn', accepts (code u k) 21 c sn = .ok (isHexB c, sn') := inSet_hex u k c sn
/-- how many of the next n signs are figures, up to the first that is none -/
def hexRun (T : Array Nat) : Nat → Nat → Nat
  | 0, _ => 0
  | n + 1, p => if isHexB (T.getD p 0) then hexRun T n (p + 1) + 1 else 0
theorem run_hex (u k : Nat) (T : Array Nat) : ∀ (n p f : Nat) (sn : Sre.Seen), ∃ sn', Sre.run (code u k) T 21 n p f sn = .ok (f + hexRun T n p, sn')
  | 0, p, f, sn => ⟨sn, rfl⟩
  | n + 1, p, f, sn => by
    obtain ⟨s1, h1⟩ := accepts_hex u k (T.getD p 0) sn
    unfold Sre.run hexRun
    rw [h1]
    cases hb : isHexB (T.getD p 0) with
    | false => exact ⟨s1, rfl⟩
    | true =>
      obtain ⟨s2, h2⟩ := run_hex u k T n (p + 1) (f + 1) s1
      refine ⟨s2, ?_⟩
      show Sre.run (code u k) T 21 n (p + 1) (f + 1) s1 = _
      rw [h2]
      simp only [if_true]
      congr 2
      omega
theorem hexRun_le (T : Array Nat) : ∀ n p, hexRun T n p ≤ n
  | 0, _ => Nat.le_refl _
  | n + 1, p => by
    unfold hexRun
    split
    · exact Nat.succ_le_succ (hexRun_le T n _)
    · exact Nat.zero_le _

def S0 (u k : Nat) (T : Array Nat) (s : Nat) (first ma : Bool) (mk : Array (Option Nat)) (sn : Sre.Seen) : M :=
  { code := code u k, text := T, lim := T.size, start := s, lastStart := T.size, mustAdvance := ma, pc := 11, pos := s, handed := s, outermost := first, marks := mk,
    frames := [{ wait := .nextStart, pc := 11, pos := s, outermost := first }], weight := 1, seen := sn }

/-- a whole escape stands at s -/
def EscAt (u k : Nat) (T : Array Nat) (s : Nat) : Prop := s + 2 + k ≤ T.size ∧ T.getD s 0 = 92 ∧ T.getD (s + 1) 0 = u ∧ hexRun T k (s + 2) = k

theorem runFor_stop (m : M) (h : m.outcome.isSome = true) : ∀ n, M.runFor n m = m
  | 0 => rfl
  | n + 1 => by unfold M.runFor; rw [if_pos h]
theorem runFor_succ (n : Nat) (m : M) : M.runFor (n + 1) m = if m.outcome.isSome then m else M.runFor n m.step := rfl
theorem runFor_add (b : Nat) : ∀ (a : Nat) (m : M), M.runFor (a + b) m = M.runFor b (M.runFor a m)
  | 0, m => by rw [Nat.zero_add]; rfl
  | a + 1, m => by
    rw [Nat.succ_add, runFor_succ, runFor_succ]
    by_cases h : m.outcome.isSome = true
    · rw [if_pos h, if_pos h, runFor_stop m h]
    · rw [if_neg h, if_neg h, runFor_add b a]
theorem runFor_one (m : M) (h : m.outcome = none) : M.runFor 1 m = m.step := by
  rw [runFor_succ, if_neg (by rw [h]; decide)]
  rfl
/-- m comes to m' in at most n steps -/
def Goes (n : Nat) (m m' : M) : Prop := ∃ j, j ≤ n ∧ M.runFor j m = m'
theorem Goes.refl (m : M) : Goes 0 m m := ⟨0, Nat.le_refl _, rfl⟩
theorem Goes.trans {a b : Nat} {m m' m'' : M} (x : Goes a m m') (y : Goes b m' m'') : Goes (a + b) m m'' := by
  obtain ⟨i, hi, rfl⟩ := x
  obtain ⟨j, hj, rfl⟩ := y
  exact ⟨i + j, Nat.add_le_add hi hj, runFor_add j i m⟩
theorem Goes.step {m : M} (h : m.outcome = none) : Goes 1 m m.step := ⟨1, Nat.le_refl _, runFor_one m h⟩
theorem Goes.of {m m' : M} (h : m.outcome = none) (e : m.step = m') : Goes 1 m m' := e ▸ Goes.step h

/-- a match, found from the start s -/
def Found (k : Nat) (s : Nat) (m : M) : Prop := m.outcome = some .matched ∧ m.start = s ∧ m.handed = s + 2 + k ∧ m.marks = #[some (s + 2), some (s + 2 + k)] ∧ m.lastmark = 1

section
variable {u k : Nat} {T : Array Nat} {s : Nat} {first ma : Bool} {mk : Array (Option Nat)} {sn : Sre.Seen}
def S1 (u k : Nat) (T : Array Nat) (s : Nat) (first ma : Bool) (mk : Array (Option Nat)) (sn : Sre.Seen) (pc pos : Nat) (lm li : Int) : M :=
  { S0 u k T s first ma mk sn with pc := pc, pos := pos, lastmark := lm, lastindex := li }
/-- the state of a start s whose try has failed -/
def SF (u k : Nat) (T : Array Nat) (s : Nat) (first ma : Bool) (mk : Array (Option Nat)) (sn : Sre.Seen) (pc pos : Nat) (lm li : Int) : M :=
  { S1 u k T s first ma mk sn pc pos lm li with answer := some false }
theorem st_lit {i c p : Nat} {lm li : Int} (hi : i < 37) (hop : (code u k).getD i 0 = 16) (hw : (code u k).getD (i + 1) 0 = c) :
    (p < T.size ∧ T.getD p 0 = c → (S1 u k T s first ma mk sn i p lm li).step = S1 u k T s first ma mk (sn.add 16) (i + 2) (p + 1) lm li) ∧
    (¬ (p < T.size ∧ T.getD p 0 = c) → (S1 u k T s first ma mk sn i p lm li).step = SF u k T s first ma mk (sn.add 16) i p lm li) := by
  have e0 : (S1 u k T s first ma mk sn i p lm li).step = M.exec (S1 u k T s first ma mk sn i p lm li) := by
    unfold M.step S1 S0
    simp only [Option.isSome_none, Bool.false_eq_true, if_false]
    rw [if_pos (show i < (code u k).size from hi)]
  have e1 : (S1 u k T s first ma mk sn i p lm li).word 0 = 16 := hop
  have e2 : M.exec (S1 u k T s first ma mk sn i p lm li) = (if p ≥ T.size then (S1 u k T s first ma mk (sn.add 16) i p lm li).say false else
      if T.getD p 0 == c then S1 u k T s first ma mk (sn.add 16) (i + 2) (p + 1) lm li else (S1 u k T s first ma mk (sn.add 16) i p lm li).say false) := by
    unfold M.exec
    simp only [e1, show ops[16]? = some Op.LITERAL from rfl]
    by_cases hp : p ≥ T.size
    · rw [if_pos (show (S1 u k T s first ma mk sn i p lm li).pos ≥ (S1 u k T s first ma mk sn i p lm li).lim from hp), if_pos hp]
      rfl
    · rw [if_neg (show ¬ (S1 u k T s first ma mk sn i p lm li).pos ≥ (S1 u k T s first ma mk sn i p lm li).lim from hp), if_neg hp]
      have ea : ∀ sn', accepts (S1 u k T s first ma mk sn i p lm li).code (S1 u k T s first ma mk sn i p lm li).pc ((S1 u k T s first ma mk sn i p lm li).text.getD (S1 u k T s first ma mk sn i p lm li).pos 0) sn' = .ok (T.getD p 0 == c, sn') := fun sn' => by
        unfold accepts
        simp only [S1, S0, hop, hw, show ops[16]? = some Op.LITERAL from rfl]
      have ei : itemWidth (code u k) i = 2 := by
        unfold itemWidth
        rw [hop]
        rfl
      rw [ea]
      cases hb : (T.getD p 0 == c) with
      | true =>
        simp only [if_true]
        show ({ S1 u k T s first ma mk (sn.add 16) i p lm li with pc := i + itemWidth (code u k) i, pos := p + 1 } : M) = _
        rw [ei]
        rfl
      | false => rfl
  refine ⟨fun h => ?_, fun h => ?_⟩
  · rw [e0, e2, if_neg (by omega), if_pos (by rw [h.2]; exact beq_self_eq_true _)]
  · rw [e0, e2]
    split
    · rfl
    · rw [if_neg (by rw [beq_iff_eq]; exact fun q => h ⟨by omega, q⟩)]
      rfl
theorem st_mark0 {p : Nat} : (S1 u k T s first ma mk sn 15 p (-1) (-1)).step = S1 u k T s first ma (mk.setIfInBounds 0 (some p)) (sn.add 17) 17 p 0 (-1) := rfl
def kept0 : Sre.Kept := { lastmark := 0, lastindex := -1, whole := false, marks := #[] }
/-- inside the repeat's own frame -/
def S2 (u k : Nat) (T : Array Nat) (s : Nat) (first ma : Bool) (mk : Array (Option Nat)) (sn : Sre.Seen) (pc p : Nat) (lm li : Int) : M :=
  { S1 u k T s first ma mk sn pc p lm li with frames := [{ wait := .giveBack, pc := 17, pos := p, outermost := first, count := (k : Int), kept := kept0 }, { wait := .nextStart, pc := 11, pos := s, outermost := first }], weight := 2, handed := p }
theorem st_rep {p : Nat} (hp : p ≤ T.size) : ∃ sn',
    (p + k ≤ T.size ∧ hexRun T k p = k → (S1 u k T s first ma mk sn 17 p 0 (-1)).step = S2 u k T s first ma mk sn' 34 (p + k) 0 (-1)) ∧
    (¬ (p + k ≤ T.size ∧ hexRun T k p = k) → (S1 u k T s first ma mk sn 17 p 0 (-1)).step = SF u k T s first ma mk sn' 17 p 0 (-1)) := by
  have e0 : (S1 u k T s first ma mk sn 17 p 0 (-1)).step = M.exec (S1 u k T s first ma mk sn 17 p 0 (-1)) := rfl
  have w0 : (S1 u k T s first ma mk sn 17 p 0 (-1)).word 0 = 24 := rfl
  have ew : M.exec (S1 u k T s first ma mk sn 17 p 0 (-1)) = (if ((k : Nat) : Int) > ((T.size : Nat) : Int) - ((p : Nat) : Int) then (S1 u k T s first ma mk (sn.add 24) 17 p 0 (-1)).say false else
      match Sre.run (code u k) T 21 (min k (((T.size : Nat) : Int) - ((p : Nat) : Int)).toNat) p 0 ((sn.add 24).add 13) with
      | .error why => (S1 u k T s first ma mk (sn.add 24) 17 p 0 (-1)).stick why
      | .ok (n, seen) => if n < k then (S1 u k T s first ma mk seen 17 p 0 (-1)).say false else (S1 u k T s first ma mk seen 17 (p + n) 0 (-1)).afterRun .giveBack n ((S1 u k T s first ma mk seen 17 (p + n) 0 (-1)).keep false)) := by
    unfold M.exec
    simp only [w0, show ops[24]? = some Op.REPEAT_ONE from rfl]
    rfl
  rw [e0, ew]
  by_cases hr : p + k ≤ T.size
  · obtain ⟨s2, h2⟩ := run_hex u k T k p 0 ((sn.add 24).add 13)
    have hle := hexRun_le T k p
    rw [Nat.zero_add] at h2
    have hroom : ¬ (((k : Nat) : Int) > ((T.size : Nat) : Int) - ((p : Nat) : Int)) := by omega
    have hmin : min k (((T.size : Nat) : Int) - ((p : Nat) : Int)).toNat = k := by omega
    rw [if_neg hroom, hmin, h2]
    dsimp only
    refine ⟨s2, fun h => ?_, fun h => ?_⟩
    · rw [h.2, if_neg (by omega)]
      rfl
    · rw [if_pos (by omega)]
      rfl
  · have hroom : ((k : Nat) : Int) > ((T.size : Nat) : Int) - ((p : Nat) : Int) := by omega
    rw [if_pos hroom]
    exact ⟨sn.add 24, fun h => absurd h.1 hr, fun _ => rfl⟩
theorem st_mark1 {p : Nat} : (S2 u k T s first ma mk sn 34 p 0 (-1)).step = S2 u k T s first ma (mk.setIfInBounds 1 (some p)) (sn.add 17) 36 p 1 1 := by
  show M.exec (S2 u k T s first ma mk sn 34 p 0 (-1)) = _
  show M.mark { S2 u k T s first ma mk sn 34 p 0 (-1) with seen := sn.add 17 } 1 = _
  unfold M.mark S2 S1 S0
  simp
  rfl
theorem st_succ {p : Nat} (hp : p ≠ s) : (S2 u k T s first ma mk sn 36 p 1 1).step = { S2 u k T s first ma mk (sn.add 1) 36 p 1 1 with answer := some true } := by
  have e0 : (S2 u k T s first ma mk sn 36 p 1 1).step = M.exec (S2 u k T s first ma mk sn 36 p 1 1) := rfl
  have w0 : (S2 u k T s first ma mk sn 36 p 1 1).word 0 = 1 := rfl
  rw [e0]
  unfold M.exec
  simp only [w0, show ops[1]? = some Op.SUCCESS from rfl]
  rw [if_neg]
  · rfl
  · simp only [S2, S1, S0]
    simp [hp]
theorem st_end {p : Nat} (hmk : mk.size = 2) : ∃ m', Goes 3 { S2 u k T s first ma mk sn 36 p 1 1 with answer := some true } m' ∧ m'.outcome = some .matched ∧ m'.start = s ∧ m'.handed = p ∧ m'.marks = mk ∧ m'.lastmark = 1 :=
  ⟨_, (Goes.step rfl).trans ((Goes.step rfl).trans (Goes.step rfl)), rfl, rfl, rfl, rfl, rfl⟩
theorem at_ok (hk : 0 < k) (hm : mk.size = 2) (h : EscAt u k T s) : ∃ m', Goes 9 (S0 u k T s first ma mk sn) m' ∧ Found k s m' := by
  obtain ⟨h0, h1, h2, h3⟩ := h
  obtain ⟨s2, h4, _⟩ := st_rep (u := u) (k := k) (T := T) (s := s) (first := first) (ma := ma) (mk := mk.setIfInBounds 0 (some (s + 2))) (sn := ((sn.add 16).add 16).add 17) (p := s + 2) (by omega)
  obtain ⟨m', g, o1, o2, o3, o4, o5⟩ := st_end (u := u) (k := k) (T := T) (s := s) (first := first) (ma := ma) (mk := (mk.setIfInBounds 0 (some (s + 2))).setIfInBounds 1 (some (s + 2 + k))) (sn := ((s2.add 17).add 1)) (p := s + 2 + k) (by simp [hm])
  refine ⟨m', ?_, o1, o2, o3, ?_, o5⟩
  · refine (Goes.of (m := S0 u k T s first ma mk sn) rfl ((st_lit (i := 11) (c := 92) (p := s) (lm := -1) (li := -1) (by decide) rfl rfl).1 ⟨by omega, h1⟩)).trans (b := 8) ?_
    refine (Goes.of rfl ((st_lit (i := 13) (c := u) (by decide) rfl rfl).1 ⟨by omega, h2⟩)).trans (b := 7) ?_
    refine (Goes.of rfl st_mark0).trans (b := 6) ?_
    refine (Goes.of rfl (h4 ⟨h0, h3⟩)).trans (b := 5) ?_
    refine (Goes.of rfl st_mark1).trans (b := 4) ?_
    exact (Goes.of rfl (st_succ (by omega))).trans (b := 3) g
  · rw [o4]
    obtain ⟨l⟩ := mk
    match l, hm with
    | [a, b], _ => rfl
def fr0 (s : Nat) (first : Bool) : Sre.Frame := { wait := .nextStart, pc := 11, pos := s, outermost := first }
def SG (u k : Nat) (T : Array Nat) (s : Nat) (first ma : Bool) (mk : Array (Option Nat)) (sn : Sre.Seen) (lm li : Int) : M :=
  { S1 u k T s first ma mk sn 11 s lm li with frames := [], weight := 0 }
theorem sf_resume {pc p : Nat} {lm li : Int} : (SF u k T s first ma mk sn pc p lm li).step = M.resume (SG u k T s first ma mk sn lm li) (fr0 s first) false := rfl
theorem sg_resume {lm li : Int} : M.resume (SG u k T s first ma mk sn lm li) (fr0 s first) false = if s < T.size then S0 u k T (s + 1) false false mk sn else (SG u k T s first ma mk sn lm li).say false := rfl
theorem sf_next {pc p : Nat} {lm li : Int} (h : s < T.size) : (SF u k T s first ma mk sn pc p lm li).step = S0 u k T (s + 1) false false mk sn := by
  rw [sf_resume, sg_resume, if_pos h]
theorem sf_last {pc p : Nat} {lm li : Int} (h : ¬ s < T.size) : ∃ m', Goes 2 (SF u k T s first ma mk sn pc p lm li) m' ∧ m'.outcome = some .failed := by
  have e : (SF u k T s first ma mk sn pc p lm li).step = (SG u k T s first ma mk sn lm li).say false := by
    rw [sf_resume, sg_resume, if_neg h]
  exact ⟨_, (Goes.of rfl e).trans (Goes.step rfl), rfl⟩
theorem at_fail (h : ¬ EscAt u k T s) (hs : s ≤ T.size) : ∃ mk' sn' pc p lm li, mk'.size = mk.size ∧ Goes 4 (S0 u k T s first ma mk sn) (SF u k T s first ma mk' sn' pc p lm li) := by
  have l1 := st_lit (u := u) (k := k) (T := T) (s := s) (first := first) (ma := ma) (mk := mk) (sn := sn) (i := 11) (c := 92) (p := s) (lm := -1) (li := -1) (by decide) rfl rfl
  by_cases h1 : s < T.size ∧ T.getD s 0 = 92
  · have g1 : Goes 1 (S0 u k T s first ma mk sn) _ := Goes.of rfl (l1.1 h1)
    have l2 := st_lit (u := u) (k := k) (T := T) (s := s) (first := first) (ma := ma) (mk := mk) (sn := sn.add 16) (i := 13) (c := u) (p := s + 1) (lm := -1) (li := -1) (by decide) rfl rfl
    by_cases h2 : s + 1 < T.size ∧ T.getD (s + 1) 0 = u
    · have g2 := g1.trans (Goes.of rfl (l2.1 h2))
      have g3 := g2.trans (Goes.of rfl st_mark0)
      obtain ⟨s2, _, h4⟩ := st_rep (u := u) (k := k) (T := T) (s := s) (first := first) (ma := ma) (mk := mk.setIfInBounds 0 (some (s + 2))) (sn := ((sn.add 16).add 16).add 17) (p := s + 2) (by omega)
      refine ⟨_, _, _, _, _, _, ?_, g3.trans (Goes.of rfl (h4 fun q => h ⟨by omega, h1.2, h2.2, q.2⟩))⟩
      simp
    · exact ⟨_, _, _, _, _, _, rfl, (g1.trans (Goes.of rfl (l2.2 h2))).trans (b := 2) ⟨0, by omega, rfl⟩⟩
  · exact ⟨_, _, _, _, _, _, rfl, (Goes.of (m := S0 u k T s first ma mk sn) rfl (l1.2 h1)).trans (b := 3) ⟨0, by omega, rfl⟩⟩
/-- what a search from s may come to -/
def Ends (u k : Nat) (T : Array Nat) (s : Nat) (m' : M) : Prop :=
  (∃ p, s ≤ p ∧ EscAt u k T p ∧ (∀ q, s ≤ q → q < p → ¬ EscAt u k T q) ∧ Found k p m') ∨ ((∀ q, s ≤ q → ¬ EscAt u k T q) ∧ m'.outcome = some .failed)
theorem search_from (hk : 0 < k) : ∀ (n s : Nat) (first ma : Bool) (mk : Array (Option Nat)) (sn : Sre.Seen), T.size - s = n → s ≤ T.size → mk.size = 2 → ∃ m', Goes (9 * (n + 1)) (S0 u k T s first ma mk sn) m' ∧ Ends u k T s m' := by
  intro n
  induction n with
  | zero =>
    intro s first ma mk sn hn hs hm
    have hne : ∀ q, s ≤ q → ¬ EscAt u k T q := fun q hq x => by have := x.1; omega
    obtain ⟨mk', sn', pc, p, lm, li, _, g⟩ := at_fail (first := first) (ma := ma) (mk := mk) (sn := sn) (hne s (Nat.le_refl _)) hs
    obtain ⟨m', g', o⟩ := sf_last (u := u) (k := k) (T := T) (s := s) (first := first) (ma := ma) (mk := mk') (sn := sn') (pc := pc) (p := p) (lm := lm) (li := li) (by omega)
    exact ⟨m', (g.trans g').trans (b := 3) ⟨0, by omega, rfl⟩, .inr ⟨hne, o⟩⟩
  | succ n ih =>
    intro s first ma mk sn hn hs hm
    by_cases h : EscAt u k T s
    · obtain ⟨m', g, f⟩ := at_ok (first := first) (ma := ma) (sn := sn) hk hm h
      obtain ⟨j, hj, e⟩ := g
      exact ⟨m', ⟨j, by omega, e⟩, .inl ⟨s, Nat.le_refl _, h, fun q h1 h2 => by omega, f⟩⟩
    · obtain ⟨mk', sn', pc, p, lm, li, hm', g⟩ := at_fail (first := first) (ma := ma) (mk := mk) (sn := sn) h hs
      have g' := g.trans (Goes.of rfl (sf_next (u := u) (k := k) (T := T) (first := first) (ma := ma) (mk := mk') (sn := sn') (pc := pc) (p := p) (lm := lm) (li := li) (show s < T.size by omega)))
      obtain ⟨m', g2, f⟩ := ih (s + 1) false false mk' sn' (by omega) (by omega) (by omega)
      obtain ⟨j, hj, e⟩ := g'.trans g2
      refine ⟨m', ⟨j, by omega, e⟩, ?_⟩
      rcases f with ⟨p, h1, h2, h3, h4⟩ | ⟨h1, h2⟩
      · refine .inl ⟨p, by omega, h2, fun q q1 q2 => ?_, h4⟩
        by_cases hq : q = s
        · rw [hq]; exact h
        · exact h3 q (by omega) q2
      · refine .inr ⟨fun q q1 => ?_, h2⟩
        by_cases hq : q = s
        · rw [hq]; exact h
        · exact h1 q (by omega)
theorem search_ends (hk : 0 < k) (hs : s ≤ T.size) (ma : Bool) : ∃ m', Goes (9 * (T.size + 1)) (forSearch (code u k) T 1 s T.size ma) m' ∧ Ends u k T s m' := by
  by_cases h : s > T.size ∨ T.size - s < k + 2
  · have hne : ∀ q, s ≤ q → ¬ EscAt u k T q := fun q hq x => by have := x.1; omega
    have e : ∃ m, forSearch (code u k) T 1 s T.size ma = M.say m false ∧ m.frames = [] ∧ m.outcome = none := by
      unfold forSearch
      dsimp only
      have hh : (header (code u k)).1 = k + 2 := rfl
      rw [if_pos]
      · exact ⟨_, rfl, rfl, rfl⟩
      · rw [hh]; simpa using h
    obtain ⟨m, e, e1, e2⟩ := e
    rw [e]
    have e3 : (M.say m false).step = { M.say m false with outcome := some .failed } := by
      unfold M.step M.say
      simp only [e1, e2]
      rfl
    exact ⟨{ M.say m false with outcome := some .failed }, ⟨1, by omega, (runFor_one (M.say m false) e2).trans e3⟩, .inr ⟨hne, rfl⟩⟩
  · have e : forSearch (code u k) T 1 s T.size ma = S0 u k T s true ma #[none, none] (({} : Sre.Seen).add 14) := by
      unfold forSearch
      dsimp only
      have hh : (header (code u k)).1 = k + 2 := rfl
      rw [if_neg]
      · have hq : (decide ((header (code u k)).1 > 1) && !((header (code u k)).2 != 0 && (code u k).getD 2 0 &&& 5 != 0)) = false := by
          have h2 : (header (code u k)).2 = 11 := rfl
          have h3 : (code u k).getD 2 0 = 1 := rfl
          rw [h2, h3, show (!((11 : Nat) != 0 && 1 &&& 5 != 0)) = false from by decide, Bool.and_false]
        rw [hq, if_neg Bool.false_ne_true]
        rfl
      · rw [hh]; simpa using h
    rw [e]
    obtain ⟨m', ⟨j, hj, q⟩, f⟩ := search_from (u := u) (T := T) hk (T.size - s) s true ma #[none, none] (({} : Sre.Seen).add 14) rfl hs rfl
    exact ⟨m', ⟨j, by omega, q⟩, f⟩
end
end Mine
end
section
open PySem PySem.W PyProof.Rows PySem.Calls PySem.Sre PySem.Builtin.Re
set_option Elab.async false
set_option maxRecDepth 100000
set_option maxHeartbeats 2000000
namespace Mine
section
variable {MM : Model} {A : Around} {E : Value → Shared → Prop} {s : Shared}
theorem drive_ends {m' : Sre.M} (ho : m'.outcome.isSome = true) {Q : Sre.M → Shared → Prop} (h : Q m' s) : ∀ (t : Nat) (m : Sre.M) (j : Nat), j ≤ 4 * t → Sre.M.runFor j m = m' → wpAny MM A (reDrive (t + 1) m) Q E s := by
  intro t
  induction t with
  | zero =>
    intro m j hj e
    have : j = 0 := by omega
    subst this
    have e' : m = m' := e
    subst e'
    unfold reDrive
    dsimp only
    rw [show reTurnSteps = 4 from rfl, runFor_stop m ho, if_pos ho]
    exact wpAny_pure h
  | succ t ih =>
    intro m j hj e
    unfold reDrive
    dsimp only
    rw [show reTurnSteps = 4 from rfl]
    by_cases h4 : (Sre.M.runFor 4 m).outcome.isSome = true
    · have e2 : Sre.M.runFor 4 m = m' := by
        by_cases hj4 : j ≤ 4
        · rw [show 4 = j + (4 - j) by omega, runFor_add, e, runFor_stop m' ho]
        · have := runFor_add (j - 4) 4 m
          rw [show 4 + (j - 4) = j by omega, e, runFor_stop _ h4] at this
          exact this.symm
      rw [if_pos h4, e2]
      exact wpAny_pure h
    · rw [if_neg h4]
      refine wpAny_bind (wpAny_rule ?_)
      by_cases hj4 : j ≤ 4
      · exfalso
        apply h4
        rw [show 4 = j + (4 - j) by omega, runFor_add, e, runFor_stop m' ho]
        exact ho
      · refine ih _ (j - 4) (by omega) ?_
        rw [← runFor_add, show 4 + (j - 4) = j by omega, e]
theorem run_ends {m m' : Sre.M} {n : Nat} {Q : Option Sre.M → Shared → Prop} (g : Goes n m m') (hn : n ≤ 2 ^ 60)
    (h : (m'.outcome = some .matched ∧ Q (some m') s) ∨ (m'.outcome = some .failed ∧ Q none s)) : wpAny MM A (reRunToEnd m) Q E s := by
  obtain ⟨j, hj, e⟩ := g
  have ho : m'.outcome.isSome = true := by rcases h with h | h <;> rw [h.1] <;> rfl
  unfold reRunToEnd
  obtain ⟨t, ht, ht'⟩ : ∃ t, 2 ^ 64 = t + 1 ∧ n ≤ 4 * t := ⟨2 ^ 64 - 1, by decide, by omega⟩
  rw [ht]
  refine wpAny_bind (drive_ends ho ?_ t m j (by omega) e)
  have rules : ∀ l : List Nat, wpAny MM A (forIn l PUnit.unit fun i _ =>
      if m'.seen.has i = true then do
        rule (names.getD i "")
        pure (ForInStep.yield PUnit.unit)
      else pure (ForInStep.yield PUnit.unit)) (fun _ s' => s' = s) E s := by
    intro l
    induction l with
    | nil => exact wpAny_pure rfl
    | cons i l ih =>
      rw [List.forIn_cons]
      split
      · exact wpAny_bind (wpAny_bind (wpAny_rule (wpAny_pure ih)))
      · exact wpAny_bind (wpAny_pure ih)
  refine wpAny_bind (wpAny_mono (rules _) (fun _ s' e => ?_) fun _ _ x => x)
  subst e
  rcases h with ⟨h1, h2⟩ | ⟨h1, h2⟩ <;> rw [h1] <;> exact wpAny_pure h2
end
end Mine
end
section
open PySem PySem.W PyProof.Rows PySem.Calls PySem.Sre PySem.Builtin.Re
set_option Elab.async false
set_option maxRecDepth 100000
set_option maxHeartbeats 2000000
namespace Mine
/-- a compiled pattern lies at P, its words at C -/
structure PatAt (h : Heap) (P C : Addr) (u k : Nat) : Prop where
  pat : ∃ a b d sl, h.get? P = some { cls := .type "re.Pattern", dict := d, data := .fields #[a, b, .int 1 0, .none, .none, .ref C, .int 0 0], slots := sl }
  words : ∃ o vs n, h.get? C = some o ∧ o.data = .seq vs n ∧ (vs.map reRawOf).map (·.toNat) = code u k
theorem PatAt.keeps {h h' : Heap} {P C : Addr} {u k : Nat} (x : PatAt h P C u k) (kp : ∀ b o, h.get? b = some o → h'.get? b = some o) : PatAt h' P C u k :=
  ⟨let ⟨a, b, d, sl, e⟩ := x.pat; ⟨a, b, d, sl, kp _ _ e⟩, let ⟨o, vs, n, e, r⟩ := x.words; ⟨o, vs, n, kp _ _ e, r⟩⟩
section
variable {MM : Model} {A : Around} {E : Value → Shared → Prop} {s : Shared}
theorem whole_target {P C : Addr} {u k : Nat} {x : PySem.Str} {t : Tok} {Q : ReTarget → Shared → Prop} (hp : PatAt s.heap P C u k)
    (h : Q { pattern := .ref P, string := .str x t, code := code u k, text := x.cps, kind := 0, groups := 1, pos := 0, lim := x.cps.size } s) : wpAny MM A (reWholeTarget (.ref P) (.str x t)) Q E s := by
  obtain ⟨⟨a, b, d, sl, he⟩, ⟨o, vs, n, hc, hd, hw⟩⟩ := hp
  unfold reWholeTarget
  refine wpAny_bind ?_
  unfold fieldsOf
  refine wpAny_bind (wpAny_load he (wpAny_pure ?_))
  refine wpAny_bind (wpAny_pure ?_)
  dsimp only
  refine wpAny_bind ?_
  show wpAny _ _ (if (0 == 1) = true then _ else pure ()) _ _ _
  rw [if_neg (by decide)]
  refine wpAny_pure ?_
  refine wpAny_bind ?_
  unfold reRawItems
  refine wpAny_bind ?_
  show wpAny _ _ (seqItems? (.ref C)) _ _ _
  unfold seqItems?
  refine wpAny_bind (wpAny_load hc ?_)
  rw [hd]
  refine wpAny_pure (wpAny_pure (wpAny_pure ?_))
  rw [show ((some vs).getD #[]) = vs from rfl, hw]
  exact h
theorem new_match {P : Addr} {k p lim : Nat} {x : PySem.Str} {t : Tok} {m : Sre.M} {Q : Value → Shared → Prop} (hf : Found k p m)
    (h : ∀ h₁ mm tp li, (∀ b o, s.heap.get? b = some o → h₁.get? b = some o) → s.heap.get? mm = none → s.heap.get? tp = none → mm ≠ tp → h₁.get? mm = some (matchO x t (.ref P) 0 lim li tp) → h₁.get? tp = some (spanO p (p + 2 + k) (p + 2) (p + 2 + k)) → Q (.ref mm) { s with heap := h₁ }) :
    wpAny MM A (reNewMatch (.ref P) (.str x t) 1 0 lim m) Q E s := by
  unfold reNewMatch
  obtain ⟨_, h1, h2, h3, h4⟩ := hf
  dsimp only
  rw [if_neg]
  rotate_left
  · rw [h3, h4]
    simp [List.range, List.range.loop]
  rw [h1, h2, h3, h4]
  refine wpAny_bind ?_
  unfold newTuple
  refine wpAny_newObj_type ?_ (by show 4 ≤ sizeLine; decide)
  unfold newFields
  refine wpAny_newObj_type ?_ (by show 6 ≤ sizeLine + 2; decide)
  refine h _ _ s.heap.objs.size m.lastindex (fun b o e => Heap.get?_push_of_some _ (Heap.get?_push_of_some _ e)) (Heap.get?_none_of_le (by simp)) (Heap.get?_none_of_le (Nat.le_refl _)) (by simp) ?_ ?_
  · exact Heap.get?_push_size _ rfl
  · exact Heap.get?_push_of_some _ (Heap.get?_push_size _ rfl)
end
end Mine
end
section
open PySem PySem.W PyProof.Rows PySem.Calls
set_option Elab.async false
set_option maxRecDepth 100000
set_option maxHeartbeats 2000000
namespace Mine
def escB (u k : Nat) (T : Array Nat) (s : Nat) : Bool := decide (s + 2 + k ≤ T.size) && T.getD s 0 == 92 && T.getD (s + 1) 0 == u && hexRun T k (s + 2) == k
theorem escB_iff {u k : Nat} {T : Array Nat} {s : Nat} : escB u k T s = true ↔ EscAt u k T s := by
  unfold escB EscAt
  simp only [Bool.and_eq_true, decide_eq_true_eq, beq_iff_eq, and_assoc]
/-- the figures of the escape at s -/
def figs (k : Nat) (T : Array Nat) (s : Nat) : List Nat := (T.extract (s + 2) (s + 2 + k)).toList
/-- the text from s on, each whole escape turned; none: an escape past the greatest sign -/
def turnF (u k : Nat) (T : Array Nat) : Nat → Nat → Option (List Nat)
  | 0, _ => some []
  | n + 1, s => if s < T.size then (if escB u k T s then (if 1114111 < lawVal 0 (figs k T s) then none else (turnF u k T n (s + 2 + k)).map ((lawVal 0 (figs k T s)).toNat :: ·)) else (turnF u k T n (s + 1)).map (T.getD s 0 :: ·)) else some []
theorem turnF_more {u k : Nat} {T : Array Nat} : ∀ (n m s : Nat), T.size - s ≤ n → T.size - s ≤ m → turnF u k T n s = turnF u k T m s
  | 0, 0, _, _, _ => rfl
  | 0, m + 1, s, h, _ => by
    unfold turnF
    rw [if_neg (by omega)]
  | n + 1, 0, s, _, h => by
    unfold turnF
    rw [if_neg (by omega)]
  | n + 1, m + 1, s, h1, h2 => by
    unfold turnF
    split
    · split
      · split
        · rfl
        · rw [turnF_more n m (s + 2 + k) (by omega) (by omega)]
      · rw [turnF_more n m (s + 1) (by omega) (by omega)]
    · rfl
def turnOf (u k : Nat) (T : Array Nat) (s : Nat) : Option (List Nat) := turnF u k T (T.size - s) s
section
variable {u k : Nat} {T : Array Nat} {s : Nat}
theorem turnOf_end (h : T.size ≤ s) : turnOf u k T s = some [] := by
  unfold turnOf
  rw [show T.size - s = 0 by omega]
  rfl
theorem turnOf_esc (h : EscAt u k T s) : turnOf u k T s = if 1114111 < lawVal 0 (figs k T s) then none else (turnOf u k T (s + 2 + k)).map ((lawVal 0 (figs k T s)).toNat :: ·) := by
  have hs : s < T.size := by have := h.1; omega
  unfold turnOf
  obtain ⟨n, hn⟩ : ∃ n, T.size - s = n + 1 := ⟨T.size - s - 1, by omega⟩
  rw [hn, turnF, if_pos hs, if_pos (escB_iff.mpr h), turnF_more n (T.size - (s + 2 + k)) (s + 2 + k) (by omega) (by omega)]
theorem turnOf_plain (hs : s < T.size) (h : ¬ EscAt u k T s) : turnOf u k T s = (turnOf u k T (s + 1)).map (T.getD s 0 :: ·) := by
  unfold turnOf
  obtain ⟨n, hn⟩ : ∃ n, T.size - s = n + 1 := ⟨T.size - s - 1, by omega⟩
  rw [hn, turnF, if_pos hs, if_neg (fun q => h (escB_iff.mp q)), turnF_more n (T.size - (s + 1)) (s + 1) (by omega) (by omega)]
theorem extract_cons {s p : Nat} (h : s < p) (hp : p ≤ T.size) : (T.extract s p).toList = T.getD s 0 :: (T.extract (s + 1) p).toList := by
  have e : ∀ a : Nat, (T.extract a p).toList = List.take (p - a) (List.drop a T.toList) := fun a => by simp
  have hl : s < T.toList.length := by rw [Array.length_toList]; omega
  rw [e s, e (s + 1), List.drop_eq_getElem_cons hl, show p - s = (p - (s + 1)) + 1 by omega, List.take_succ_cons]
  congr 1
  simp [Array.getD, show s < T.size by omega]
theorem turn_skip : ∀ (n : Nat) {s p : Nat}, p - s = n → s ≤ p → p ≤ T.size → (∀ q, s ≤ q → q < p → ¬ EscAt u k T q) → turnOf u k T s = (turnOf u k T p).map ((T.extract s p).toList ++ ·) := by
  intro n
  induction n with
  | zero =>
    intro s p h hs hp hn
    have : p = s := by omega
    subst this
    cases turnOf u k T p <;> simp
  | succ n ih =>
    intro s p h hs hp hn
    rw [turnOf_plain (by omega) (hn s (Nat.le_refl _) (by omega)), ih (s := s + 1) (p := p) (by omega) (by omega) hp (fun q h1 h2 => hn q (by omega) h2), extract_cons (s := s) (p := p) (by omega) hp]
    cases turnOf u k T p <;> simp
theorem turn_none (hs : s ≤ T.size) (hn : ∀ q, s ≤ q → ¬ EscAt u k T q) : turnOf u k T s = some (T.extract s T.size).toList := by
  rw [turn_skip (T.size - s) rfl hs (Nat.le_refl _) fun q h _ => hn q h, turnOf_end (Nat.le_refl _)]
  simp
theorem hexRun_all : ∀ (n p : Nat), hexRun T n p = n → ∀ i, i < n → isHexB (T.getD (p + i) 0) = true
  | 0, _, _, i, h => by omega
  | n + 1, p, h, i, hi => by
    unfold hexRun at h
    split at h
    · rename_i hb
      cases i with
      | zero => exact hb
      | succ i =>
        have := hexRun_all n (p + 1) (by omega) i (by omega)
        rw [show p + (i + 1) = p + 1 + i by omega]
        exact this
    · omega
theorem figs_hex (h : EscAt u k T s) : AllHex (figs k T s) := by
  intro c hc
  unfold figs at hc
  obtain ⟨i, hi⟩ := List.getElem?_of_mem hc
  rw [Array.getElem?_toList, Array.getElem?_extract] at hi
  split at hi
  · rename_i hlt
    have h1 := hexRun_all k (s + 2) h.2.2.2 i (by omega)
    have e : T.getD (s + 2 + i) 0 = c := by rw [Array.getD_eq_getD_getElem?, hi]; rfl
    rw [e] at h1
    exact of_decide_eq_true h1
  · cases hi
theorem figs_length (h : EscAt u k T s) : (figs k T s).length = k := by
  unfold figs
  have := h.1
  simp
  omega
theorem lawVal_ge : ∀ (l : List Nat) (v : Int), 0 ≤ v → AllHex l → 0 ≤ lawVal v l
  | [], v, h, _ => h
  | c :: r, v, h, ha => by
    have hc := ha c (.head _)
    have hd := (hexD_of hc).1
    rw [lawVal, if_neg (by omega)]
    refine lawVal_ge r _ ?_ fun d hd => ha d (.tail _ hd)
    omega
end
end Mine
end
section
open PySem PySem.W PyProof.Rows PySem.Calls PySem.Sre PySem.Builtin.Re
set_option Elab.async false
set_option maxRecDepth 100000
set_option maxHeartbeats 1000000
namespace Mine
section
variable {MM : Model} {A : Around} {E : Value → Shared → Prop} {s : Shared} {h₀ : Heap} {L pl : Addr} {m : PySem.Str → Option Value} {news : List (Addr × Obj)} {vs : List Value} {c : Nat}
theorem push_list {v : Value} {Q : Unit → Shared → Prop} (F : Fr h₀ L s.heap m) (N : News h₀ L s.heap ((pl, listOf vs.toArray c) :: news)) (hn : ∀ p ∈ news, p.1 ≠ pl) (hz : vs.length ≤ 100000)
    (h : ∀ h', Fr h₀ L h' m → News h₀ L h' ((pl, listOf (vs ++ [v]).toArray (c + 1)) :: news) → Q () { s with heap := h' }) : wpAny MM A (updateSeq pl (·.push v)) Q E s := by
  have e : Obj.mapSeq (·.push v) (listOf vs.toArray c) = listOf (vs ++ [v]).toArray (c + 1) := by simp [Obj.mapSeq]
  obtain ⟨F', N'⟩ := news_upd (pre := []) (o' := listOf (vs ++ [v]).toArray (c + 1)) (f := Obj.mapSeq (·.push v)) F N (fun _ q => nomatch q) hn e rfl
  have hs : sizeLine = 16777216 := rfl
  refine wpAny_updateSeq (N _ (.head _)).1 rfl (h _ F' N') ?_ ?_
  · simp; omega
  · simp; omega
theorem slice_ok {T : Array Nat} {b e : Nat} {Q : Value → Shared → Prop} (hx : T.size ≤ 5000) (h : ∀ t, Q (.str ⟨T.extract b e⟩ t) { s with toks := s.toks + 1 }) : wpAny MM A (reSlice T 0 b e) Q E s := by
  have hs : sizeLine = 16777216 := rfl
  refine wpAny_mkStr (h _) ?_
  show (T.extract b e).size ≤ sizeLine
  rw [Array.size_extract]
  omega
theorem Fly.drop {base G : Heap} {l : List Env} {e : Addr} {cls ctx : Value} {dx : Option Addr} {news news' : List (Addr × Obj)} {h : Heap} (R : Fly base G l e cls dx ctx news h) (hs : ∀ q ∈ news', q ∈ news) : Fly base G l e cls dx ctx news' h := by
  obtain ⟨⟨B, a0, h1, h2, h3, h4⟩, X, U⟩ := R
  exact ⟨⟨B, a0, h1, h2, fun q hq => h3 q (hs q hq), h4⟩, X, U⟩
theorem join_snoc' (x : PySem.Str) : ∀ ws : List PySem.Str, PySem.Str.join ⟨#[]⟩ (ws ++ [x]) = PySem.Str.join ⟨#[]⟩ ws ++ x
  | [] => by
    rw [List.nil_append, join_nil_cons]
    show x ++ (⟨#[]⟩ : PySem.Str) = (⟨#[]⟩ : PySem.Str) ++ x
    apply PySem.Str.ext'
    simp [PySem.Str.cps_append]
  | w :: ws => by
    rw [List.cons_append, join_nil_cons, join_nil_cons, join_snoc' x ws, PySem.Str.append_assoc]
theorem quiet_loop (args : Args) : (Code.builtin "re.Pattern.sub.loop" args).quiet = true := plainId_quiet (by decide +kernel) args
theorem plain_loop : plainId "re.Pattern.sub.loop" = true := by decide +kernel
theorem cat_str (ws : List PySem.Str) (a : PySem.Str) (l r : List Nat) (h : a.cps.toList = l) : PySem.Str.join ⟨#[]⟩ (ws ++ [a]) ++ ⟨r.toArray⟩ = PySem.Str.join ⟨#[]⟩ ws ++ ⟨(l ++ r).toArray⟩ := by
  rw [join_snoc', PySem.Str.append_assoc]
  congr 1
  apply PySem.Str.ext'
  rw [PySem.Str.cps_append]
  apply Array.toList_inj.mp
  simp [h]
end

def turnTail (P x : Value) (pl : Addr) (lim : Nat) (cnt : Int) (m : Sre.M) : Sem Fin := do
  let found ← reNewMatch P x 1 0 lim m
  let item ← holding [found] (call (.ref 45) [found])
  if item != .none then do
    updateSeq pl (·.push item)
    again (.builtin "re.Pattern.sub.loop" ⟨[P, x, .ref 45, rawInt 1, rawInt 0, rawInt (cnt + 1), rawInt m.handed, rawInt m.handed, .bool (m.handed == m.start), .ref pl, .bool false], []⟩)
  else again (.builtin "re.Pattern.sub.loop" ⟨[P, x, .ref 45, rawInt 1, rawInt 0, rawInt (cnt + 1), rawInt m.handed, rawInt m.handed, .bool (m.handed == m.start), .ref pl, .bool false], []⟩)
def turnLast (x : Array Nat) (pl : Addr) : Sem Fin := do
  let joiner ← reSlice x 0 0 0
  let text ← if ((← seqItems? (.ref pl)).getD #[]).isEmpty then pure joiner else call (.builtin "str.join") [joiner, .ref pl]
  ret text
/-- the text is as long as its signs -/
theorem sum_snoc (ws : List PySem.Str) (x : PySem.Str) : ((ws ++ [x]).map (·.length)).sum = (ws.map (·.length)).sum + x.length := by simp

section
variable {w : World} {p : Program} {loose : List PySem.Str} {mean : ExcName → Option Value} {mg mb : PySem.Str → Option Value} {news : List (Addr × Obj)} {x : PySem.Str} {tx : Tok} {P C pl : Addr} {u k : Nat}
  {dp un : Nat} {gd : Option (List Code)} {cn : PySem.Str} {cs : Scope} {a' : Addr} {ccd : Value} {cl : List (PySem.Str × Addr)} {outer : List Env} {A₀ : Around} {base h₀ : Heap} {L : Addr} {m : PySem.Str → Option Value} {R : Result → Shared → Prop}
theorem sub_loop (hk : 0 < k) (hk8 : k ≤ 8) (hx : x.length ≤ 5000) (hP : PatAt h₀ P C u k) (B : Below A₀ base outer h₀) (T : Top p loose mean mg mb h₀) (TB : Top p loose mean mg mb base) (D : KtsDicts (outer.filterMap (·.frame)) h₀) (hcs : cs.kind = .function)
    (hd : dp + 1 < recursionLimit) (hu : un + 12 < cLine) (X : (Mine.hd.heap_39 w.params).In h₀) (XB : (Mine.hd.heap_39 w.params).In base) (hpl : ∀ q ∈ news, q.1 ≠ pl) :
    ∀ (n st : Nat) (must : Bool) (cnt : Int) (vs : List Value) (ws : List PySem.Str) (c : Nat) (s : Shared), x.cps.size - st = n → st ≤ x.cps.size → Fr h₀ L s.heap m → News h₀ L s.heap ((pl, listOf vs.toArray c) :: news) → StrsAre vs ws → vs.length ≤ 2 * st → (ws.map (·.length)).sum ≤ st →
      (∀ r, turnOf u k x.cps st = some r → ∀ t h' tk', Fr h₀ L h' m → News h₀ L h' news → R (.ok (.ret (.str (PySem.Str.join ⟨#[]⟩ ws ++ ⟨r.toArray⟩) t))) { s with heap := h', toks := tk' }) →
      (turnOf u k x.cps st = none → ∀ h₁ G e e1 oe1 dx h' tk', KtsTurn (outer.filterMap (·.frame)) h₀ h₁ → Fr h₁ L G m → Below A₀ base outer h₁ → Fly base G (envX cn cs L a' ccd cl :: outer) e (.type "Exception") none (.ref e1) ((e1, oe1) :: news) h' →
        Xo (.type "ValueError") dx .none oe1 → R (.error (.ref e)) { s with heap := h', toks := tk' }) →
      codeAny (model PySem.Challenge.rw_ez5014_01.row.prog w) (ktrTop dp un gd cn cs L a' ccd cl outer) (.builtin "re.Pattern.sub.loop" ⟨[.ref P, .str x tx, .ref 45, rawInt 1, rawInt 0, rawInt cnt, rawInt st, rawInt st, .bool must, .ref pl, .bool false], []⟩) R s := by
  intro n
  induction n using Nat.strongRecOn with
  | ind n ih =>
  intro st must cnt vs ws c s hn hst F N hS hvl hwl hret hraise
  have hsz : x.cps.size ≤ 5000 := hx
  have hline : sizeLine = 16777216 := rfl
  refine codeAny_builtin entry_loop ?_
  rw [Around.under_plainId plain_loop]
  unfold Builtin.«re.Pattern.sub.loop»
  refine wpAny_bind (whole_target (hP.keeps F.keep) ?_)
  dsimp only
  refine wpAny_bind ?_
  rw [if_neg (by simp), Int.toNat_natCast]
  unfold reNextFound
  obtain ⟨m', g, he⟩ := search_ends (u := u) (k := k) (T := x.cps) (s := st) hk hst must
  rcases he with ⟨q, hq1, hq2, hq3, hq4⟩ | ⟨hno, hfail⟩
  · refine run_ends g (by omega) (.inl ⟨hq4.1, ?_⟩)
    have hqs := hq2.1
    have hturn : turnOf u k x.cps st = (turnOf u k x.cps q).map ((x.cps.extract st q).toList ++ ·) := turn_skip _ rfl hq1 (by omega) hq3
    have hesc := turnOf_esc hq2
    have hqst : m'.start = q := hq4.2.1
    have hqh : m'.handed = q + 2 + k := hq4.2.2.1
    have tail : ∀ (vs' : List Value) (ws' : List PySem.Str) (c' : Nat) (s' : Shared) (h1 : Heap) (tk1 : Nat), s' = { s with heap := h1, toks := tk1 } → Fr h₀ L s'.heap m → News h₀ L s'.heap ((pl, listOf vs'.toArray c') :: news) → StrsAre vs' ws' → vs'.length ≤ 2 * q + 1 → (ws'.map (·.length)).sum ≤ q →
        PySem.Str.join ⟨#[]⟩ ws' = PySem.Str.join ⟨#[]⟩ ws ++ ⟨x.cps.extract st q⟩ →
        wpAny (model PySem.Challenge.rw_ez5014_01.row.prog w) (ktrTop dp un gd cn cs L a' ccd cl outer).in1 (turnTail (.ref P) (.str x tx) pl x.cps.size cnt m')
          (fun fin s' => match fin with | .done f => R (.ok f) s' | .again c' => c'.quiet = true ∧ codeAny (model PySem.Challenge.rw_ez5014_01.row.prog w) (ktrTop dp un gd cn cs L a' ccd cl outer) c' R s') (fun e s' => R (.error e) s') s' := by
      intro vs' ws' c' s' h1 tk1 es F' N' hS' hv' hw' hj'
      unfold turnTail
      refine wpAny_bind (new_match hq4 fun h2 mm tp li k2 f1 f2 f3 o1 o2 => ?_)
      have F₂ : Fr h₀ L h2 m := F'.keeps k2
      have nf : ∀ {b : Addr}, s'.heap.get? b = none → h₀.get? b = none := fun {b} q => by
        cases z : h₀.get? b with
        | none => rfl
        | some o => have := F'.keep b o z; rw [q] at this; cases this
      have N₀ : News h₀ L h2 ((pl, listOf vs'.toArray c') :: news) := fun z hz => ⟨k2 _ _ (N' z hz).1, (N' z hz).2⟩
      have N₂ : News h₀ L h2 ((mm, matchO x tx (.ref P) 0 x.cps.size li tp) :: (tp, spanO q (q + 2 + k) (q + 2) (q + 2 + k)) :: (pl, listOf vs'.toArray c') :: news) := by
        have Nt := News.more F₂ N₀ o2 (fun es n z => by cases z) (nf f2)
        exact News.more F₂ Nt o1 (fun es n z => by cases z) (nf f1)
      have hfx : AllHex (⟨x.cps.extract (q + 2) (q + 2 + k)⟩ : PySem.Str).cps.toList := figs_hex hq2
      have hfl : (⟨x.cps.extract (q + 2) (q + 2 + k)⟩ : PySem.Str).cps.toList.length = k := figs_length hq2
      have hfn : (⟨x.cps.extract (q + 2) (q + 2 + k)⟩ : PySem.Str).cps.toList ≠ [] := fun z => by rw [z] at hfl; simp at hfl; omega
      have hf6 : (⟨x.cps.extract (q + 2) (q + 2 + k)⟩ : PySem.Str).length ≤ 640 := by
        have : (⟨x.cps.extract (q + 2) (q + 2 + k)⟩ : PySem.Str).length = k := Array.length_toList.symm.trans hfl
        omega
      refine wpAny_bind (wpAny_holding ?_)
      by_cases hv : 1114111 < lawVal 0 (figs k x.cps q)
      · rw [if_pos hv] at hesc
        have htn : turnOf u k x.cps st = none := by rw [hturn, hesc]; rfl
        refine expand_raises w p loose mean mg mb ((pl, listOf vs'.toArray c') :: news) x tx (.ref P) 0 x.cps.size li mm tp q (q + 2 + k) (q + 2) (q + 2 + k) dp (un + 1) gd cn cs a' ccd cl outer A₀ base h₀ L m _ _ _ B F₂ N₂ T TB D hcs hd (by omega) (by omega) hfx hfn hf6 hv ?_ X XB
        intro h₁ G e e1 oe1 dx h' tk' T₁ F₁ B₁ R₁ xo
        subst es
        exact hraise htn h₁ G e e1 oe1 dx h' tk' T₁ F₁ B₁ (R₁.drop fun z hz => by
          rcases List.mem_cons.mp hz with rfl | hz
          · exact .head _
          · exact .tail _ (.tail _ (.tail _ (.tail _ hz)))) xo
      · rw [if_neg hv] at hesc
        have hv0 := lawVal_ge (figs k x.cps q) 0 (by decide) (figs_hex hq2)
        refine expand_ok w p loose mean mg mb ((pl, listOf vs'.toArray c') :: news) x tx (.ref P) 0 x.cps.size li mm tp q (q + 2 + k) (q + 2) (q + 2 + k) dp (un + 1) gd cn cs a' ccd cl outer A₀ base h₀ L m _ _ _ B F₂ N₂ T hcs hd (by omega) (by omega) hfx hfn hf6 (show lawVal 0 (figs k x.cps q) ≤ 1114111 by omega) hv0 ?_ X
        intro t3 h3 tk3 F₃ N₃
        show wpAny _ _ (if (Value.str ⟨#[(lawVal 0 (figs k x.cps q)).toNat]⟩ t3 != Value.none) = true then _ else _) _ _ _
        rw [if_pos (show (Value.str ⟨#[(lawVal 0 (figs k x.cps q)).toNat]⟩ t3 != Value.none) = true from rfl)]
        have N₄ : News h₀ L h3 ((pl, listOf vs'.toArray c') :: news) := fun z hz => N₃ z (.tail _ (.tail _ hz))
        refine wpAny_bind (push_list (pl := pl) F₃ N₄ hpl (by omega) fun h5 F₅ N₅ => wpAny_pure ⟨quiet_loop _, ?_⟩)
        rw [hqst, hqh]
        have hsum : ((ws' ++ [(⟨#[(lawVal 0 (figs k x.cps q)).toNat]⟩ : PySem.Str)]).map (·.length)).sum ≤ q + 2 + k := by
          rw [sum_snoc]
          show _ + 1 ≤ _
          omega
        refine ih (x.cps.size - (q + 2 + k)) (by omega) (q + 2 + k) _ _ _ (ws' ++ [(⟨#[(lawVal 0 (figs k x.cps q)).toNat]⟩ : PySem.Str)]) _ _ rfl hqs F₅ N₅ (hS'.append' (.cons _ _ .nil)) (by simp; omega) hsum ?_ ?_
        · intro r hr t6 h6 tk6 F₆ N₆
          have := hret ((x.cps.extract st q).toList ++ (lawVal 0 (figs k x.cps q)).toNat :: r) (by rw [hturn, hesc, hr]; rfl) t6 h6 tk6 F₆ N₆
          rw [cat_str (ws := ws') (a := ⟨#[(lawVal 0 (figs k x.cps q)).toNat]⟩) (l := [(lawVal 0 (figs k x.cps q)).toNat]) (r := r) (h := rfl), hj', PySem.Str.append_assoc]
          have e6 : ((⟨x.cps.extract st q⟩ : PySem.Str) ++ ⟨([(lawVal 0 (figs k x.cps q)).toNat] ++ r).toArray⟩) = ⟨((x.cps.extract st q).toList ++ (lawVal 0 (figs k x.cps q)).toNat :: r).toArray⟩ := by
            apply PySem.Str.ext'
            rw [PySem.Str.cps_append]
            apply Array.toList_inj.mp
            simp
          rw [e6]
          subst es
          exact this
        · intro hr h₁ G e e1 oe1 dx h' tk' T₁ F₁ B₁ R₁ xo
          subst es
          exact hraise (by rw [hturn, hesc, hr]; rfl) h₁ G e e1 oe1 dx h' tk' T₁ F₁ B₁ R₁ xo
    dsimp only
    by_cases hlt : st < m'.start
    · rw [if_pos hlt]
      refine wpAny_bind (slice_ok hsz fun t => wpAny_bind (push_list F N hpl (by omega) fun h' F' N' => ?_))
      refine tail _ (ws ++ [⟨x.cps.extract st m'.start⟩]) _ _ h' (s.toks + 1) rfl F' N' (hS.append' (.cons _ _ .nil)) (by simp; omega) ?_ (by rw [hqst]; exact join_snoc' _ _)
      rw [sum_snoc, hqst]
      show _ + (x.cps.extract st q).size ≤ _
      rw [Array.size_extract]
      omega
    · rw [if_neg hlt]
      refine tail vs ws c s s.heap s.toks rfl F N hS (by omega) (by omega) ?_
      have he : x.cps.extract st q = #[] := by simp; omega
      rw [he]
      apply PySem.Str.ext'
      simp [PySem.Str.cps_append]
  · refine run_ends g (by omega) (.inr ⟨hfail, ?_⟩)
    have last : ∀ (vs' : List Value) (ws' : List PySem.Str) (c' : Nat) (s' : Shared) (h1 : Heap) (tk1 : Nat), s' = { s with heap := h1, toks := tk1 } → Fr h₀ L s'.heap m → News h₀ L s'.heap ((pl, listOf vs'.toArray c') :: news) → StrsAre vs' ws' → vs'.length ≤ 2 * st + 1 → (ws'.map (·.length)).sum ≤ x.cps.size →
        PySem.Str.join ⟨#[]⟩ ws' = PySem.Str.join ⟨#[]⟩ ws ++ ⟨x.cps.extract st x.cps.size⟩ →
        wpAny (model PySem.Challenge.rw_ez5014_01.row.prog w) (ktrTop dp un gd cn cs L a' ccd cl outer).in1 (turnLast x.cps pl)
          (fun fin s' => match fin with | .done f => R (.ok f) s' | .again c' => c'.quiet = true ∧ codeAny (model PySem.Challenge.rw_ez5014_01.row.prog w) (ktrTop dp un gd cn cs L a' ccd cl outer) c' R s') (fun e s' => R (.error e) s') s' := by
      intro vs' ws' c' s' h1 tk1 es F' N' hS' hv' hw' hj'
      unfold turnLast
      refine wpAny_bind (slice_ok hsz fun t => ?_)
      have N₁ := N' _ (.head _)
      refine wpAny_bind ?_
      unfold seqItems?
      refine wpAny_bind (wpAny_load N₁.1 (wpAny_pure ?_))
      have hend := hret _ (turn_none hst hno)
      rw [show ({ cps := (x.cps.extract st x.cps.size).toList.toArray } : PySem.Str) = ⟨x.cps.extract st x.cps.size⟩ from by rw [Array.toArray_toList], ← hj'] at hend
      have NN : News h₀ L s'.heap news := fun q hq => N' q (.tail _ hq)
      show wpAny _ _ (if (vs'.toArray).isEmpty = true then _ else _) _ _ _
      cases hS' with
      | nil =>
        rw [if_pos (show (#[] : Array Value).isEmpty = true from rfl)]
        refine wpAny_bind (wpAny_pure (wpAny_pure ?_))
        have he : x.cps.extract 0 0 = #[] := by simp
        rw [he]
        subst es
        exact hend _ _ _ F' NN
      | @cons y ty vs2 ws2 hS2 =>
        rw [if_neg (by simp)]
        refine wpAny_bind (join_listW (ys := y :: ws2) (items := (Value.str y ty :: vs2).toArray) ⟨_, N₁.1, rfl, _, rfl⟩ (by simpa using StrsAre.cons y ty hS2) (by show (x.cps.extract 0 0).size ≤ 16; simp) ?_ fun t' k' => wpAny_pure ?_)
        · have : (y :: ws2).length = (Value.str y ty :: vs2).length := (StrsAre.len_eq (StrsAre.cons y ty hS2)).symm
          omega
        · have he : x.cps.extract 0 0 = #[] := by simp
          have hj2 : PySem.Txt.join ⟨x.cps.extract 0 0⟩ (y :: ws2) = PySem.Str.join ⟨#[]⟩ (y :: ws2) := by rw [he]; exact StrLaws.glued_eq_join _ _
          rw [hj2]
          subst es
          exact hend _ _ _ F' NN
    dsimp only
    by_cases hlt : st < x.cps.size
    · rw [if_pos hlt]
      refine wpAny_bind (slice_ok hsz fun t => wpAny_bind (push_list F N hpl (by omega) fun h' F' N' => ?_))
      refine last _ (ws ++ [⟨x.cps.extract st x.cps.size⟩]) _ _ h' (s.toks + 1) rfl F' N' (hS.append' (.cons _ _ .nil)) (by simp; omega) ?_ (join_snoc' _ _)
      rw [sum_snoc]
      show _ + (x.cps.extract st x.cps.size).size ≤ _
      rw [Array.size_extract]
      omega
    · rw [if_neg hlt]
      refine last vs ws c s s.heap s.toks rfl F N hS (by omega) (by omega) ?_
      have he : x.cps.extract st x.cps.size = #[] := by simp; omega
      rw [he]
      apply PySem.Str.ext'
      simp [PySem.Str.cps_append]
end
end Mine
end
section
open PySem PySem.W PyProof.Rows PySem.Calls PySem.Sre PySem.Builtin.Re
set_option Elab.async false
set_option maxRecDepth 100000
set_option maxHeartbeats 1000000
namespace Mine
theorem fn_call : typeLookup (.type "function") "__call__" = pure (some (.builtin "function.__call__")) := by rw [typeLookup_type, builtinLookup_eq_fast]; kernel_rfl
theorem str_no_bytearray : isSubtype (.type "str") (.type "bytearray") = pure false := by rw [isSubtype_type]; kernel_rfl
theorem k45 (w : World) : ∃ o, (Mine.hd.heap_39 w.params).lookup 45 = some o ∧ o.cls = .type "function" := ⟨_, rfl, rfl⟩
theorem pat4 (w : World) {h : Heap} (X : (Mine.hd.heap_39 w.params).In h) : PatAt h 50 49 117 4 :=
  ⟨⟨_, _, _, _, X 50 _ rfl⟩, ⟨_, _, _, X 49 _ rfl, rfl, by decide +kernel⟩⟩
theorem pat8 (w : World) {h : Heap} (X : (Mine.hd.heap_39 w.params).In h) : PatAt h 55 54 85 8 :=
  ⟨⟨_, _, _, _, X 55 _ rfl⟩, ⟨_, _, _, X 54 _ rfl, rfl, by decide +kernel⟩⟩
theorem named_sub (r x : Value) : reNamed "re.Pattern.sub" "sub" ["repl", "string", "count"] 2 [r, x] [] = pure [some r, some x, none] := by kernel_rfl
section
variable {w : World} {p : Program} {loose : List PySem.Str} {mean : ExcName → Option Value} {mg mb : PySem.Str → Option Value} {news : List (Addr × Obj)} {x : PySem.Str} {tx : Tok} {P C : Addr} {u k : Nat}
  {dp un : Nat} {gd : Option (List Code)} {cn : PySem.Str} {cs : Scope} {a' : Addr} {ccd : Value} {cl : List (PySem.Str × Addr)} {outer : List Env} {A₀ : Around} {base h₀ : Heap} {L : Addr} {m : PySem.Str → Option Value} {Q E : Value → Shared → Prop} {s : Shared}
theorem getMethod_sub {pl : Sem Bool} {M : Model} {A : Around} {Q : Value × List Value → Shared → Prop} (hP : PatAt s.heap P C u k) (hd : ∃ o, s.heap.get? P = some o ∧ o.dict = none) (h : Q (.builtin "re.Pattern.sub", [.ref P]) s) :
    wpAny M A (getMethod (.ref P) "sub" pl) Q E s := by
  obtain ⟨a, b, d, sl, he⟩ := hP.pat
  exact getMethod_builtin ⟨_, he, rfl⟩ plainAttrs_pattern slot_sub type_sub (fun a e => by cases e; exact hd) h
theorem sub_call (hk : 0 < k) (hk8 : k ≤ 8) (hx : x.length ≤ 5000) (hP : PatAt h₀ P C u k) (B : Below A₀ base outer h₀) (F : Fr h₀ L s.heap m) (N : News h₀ L s.heap news) (T : Top p loose mean mg mb h₀) (TB : Top p loose mean mg mb base) (D : KtsDicts (outer.filterMap (·.frame)) h₀) (hcs : cs.kind = .function)
    (hd : dp + 1 < recursionLimit) (hu : un + 12 < cLine) (X : (Mine.hd.heap_39 w.params).In h₀) (XB : (Mine.hd.heap_39 w.params).In base)
    (hret : ∀ r, turnOf u k x.cps 0 = some r → ∀ t h' tk', Fr h₀ L h' m → News h₀ L h' news → Q (.str ⟨r.toArray⟩ t) { s with heap := h', toks := tk' })
    (hraise : turnOf u k x.cps 0 = none → ∀ h₁ G e e1 oe1 dx h' tk', KtsTurn (outer.filterMap (·.frame)) h₀ h₁ → Fr h₁ L G m → Below A₀ base outer h₁ → Fly base G (envX cn cs L a' ccd cl :: outer) e (.type "Exception") none (.ref e1) ((e1, oe1) :: news) h' →
        Xo (.type "ValueError") dx .none oe1 → E (.ref e) { s with heap := h', toks := tk' }) :
    wpAny (model PySem.Challenge.rw_ez5014_01.row.prog w) (ktrTop dp un gd cn cs L a' ccd cl outer) (call (.builtin "re.Pattern.sub") [.ref P, .ref 45, .str x tx]) Q E s := by
  obtain ⟨a, b, d, sl, he⟩ := (hP.keeps F.keep).pat
  obtain ⟨o45, ho45, hc45⟩ := k45 w
  have h45 : s.TypeIs (.ref 45) "function" := ⟨o45, F.keep _ _ (X _ _ ho45), hc45⟩
  refine wpAny_call (codeAny_call_builtin slot_sub.plain entry_sub (slot_sub.check _ _ _ _ _ _ _ _ ⟨_, he, rfl⟩ (args_sub _ _ _) ?_))
  unfold Builtin.«re.Pattern.sub» reSubstitute
  dsimp only
  refine wpAny_bind ?_
  rw [named_sub]
  refine wpAny_pure ?_
  dsimp only
  refine wpAny_bind (wpAny_pure ?_)
  refine wpAny_bind (wpAny_specialOf h45 fn_call ?_)
  rw [if_pos (show (some (Value.builtin "function.__call__")).isSome = true from rfl)]
  refine wpAny_bind (wpAny_pure ?_)
  rw [if_pos (show (some (Value.builtin "function.__call__")).isSome = true from rfl)]
  refine wpAny_bind (wpAny_pure ?_)
  refine wpAny_bind (wpAny_holding (whole_target (hP.keeps F.keep) ?_))
  dsimp only
  rw [if_pos (by decide)]
  refine wpAny_bind ?_
  unfold reNotHeld
  refine wpAny_bind (wpAny_isInstance (T := "str") (b := false) rfl str_no_bytearray ?_)
  dsimp only
  rw [if_neg Bool.false_ne_true]
  refine wpAny_pure (wpAny_bind (newList_N F N (fun h₁ F₁ N₁ => ?_) (by show 0 ≤ _; exact Nat.zero_le _)))
  refine wpAny_pure ⟨quiet_loop _, ?_⟩
  have hpl : ∀ q ∈ news, q.1 ≠ s.heap.objs.size := fun q hq => Nat.ne_of_lt (Heap.lt_size (N q hq).1)
  refine sub_loop hk hk8 hx hP B T TB D hcs hd hu X XB hpl (x.cps.size - 0) 0 false 0 [] [] 0 { s with heap := h₁ } rfl (Nat.zero_le _) F₁ N₁ .nil (Nat.zero_le _) (Nat.zero_le _) (fun r hr t h' tk' F' N' => ?_) (fun hn h₁ G e e1 oe1 dx h' tk' T₁ F₁ B₁ R₁ xo => ?_)
  · have e : PySem.Str.join ⟨#[]⟩ [] ++ (⟨r.toArray⟩ : PySem.Str) = ⟨r.toArray⟩ := by
      apply PySem.Str.ext'
      simp [PySem.Str.cps_append, join_nil]
      rfl
    rw [e]
    exact hret r hr t h' tk' F' N'
  · exact hraise hn h₁ G e e1 oe1 dx h' tk' T₁ F₁ B₁ R₁ xo
end
end Mine
end
section
open PySem PySem.W PyProof.Rows PySem.Calls PySem.Builtin
set_option Elab.async false
set_option maxRecDepth 100000
set_option maxHeartbeats 1000000
namespace Mine
def encB (x : PySem.Str) : Array UInt8 := x.cps.foldl (fun acc c => acc ++ (PySem.Str.utf8Of c).toArray) #[]
def Plain (x : PySem.Str) : Prop := x.cps.any PySem.Str.isSurrogate = false
theorem utf8_le (c : Nat) : (PySem.Str.utf8Of c).length ≤ 4 := by
  unfold PySem.Str.utf8Of
  (repeat' split) <;> simp
theorem enc_fold : ∀ (l : List Nat) (acc : Array UInt8), (l.foldl (fun acc c => acc ++ (PySem.Str.utf8Of c).toArray) acc).size ≤ acc.size + 4 * l.length
  | [], acc => by simp
  | c :: l, acc => by
    rw [List.foldl_cons]
    refine Nat.le_trans (enc_fold l _) ?_
    have := utf8_le c
    simp
    omega
theorem enc_size (x : PySem.Str) : (encB x).size ≤ 4 * x.length := by
  unfold encB
  rw [← Array.foldl_toList]
  refine Nat.le_trans (enc_fold _ _) ?_
  show 0 + 4 * x.cps.toList.length ≤ 4 * x.cps.size
  rw [Array.length_toList]
  omega
theorem loop_two {σ : Type} (f : Nat → σ → Sem (ForInStep σ)) (a b : σ) (h1 : f 0 a = pure (.yield b)) (h2 : ∀ c, f c b = pure (.done b)) : ∀ n, 0 < n → forIn (List.range' 0 n) a f = pure b := by
  intro n hn
  obtain ⟨n, rfl⟩ : ∃ k, n = k + 1 := ⟨n - 1, by omega⟩
  rw [List.range'_succ, List.forIn_cons, h1]
  simp only [pure_bind]
  cases n with
  | zero => rfl
  | succ n => rw [List.range'_succ, List.forIn_cons, h2]; simp only [pure_bind]
theorem narrow (id : String) (v : Value) (x : PySem.Str) (hp : Plain x) (hx : x.length ≤ 100000) : _codecs.encodeNarrow id _codecs.utf8Codec none v x = pure (encB x) := by
  have hz := enc_size x
  have hs : sizeLine = 16777216 := rfl
  have hb : ∀ c ∈ x.cps, _codecs.utf8Codec.bad c = false := by
    intro c hc
    have := hp
    unfold Plain at this
    rw [Array.any_eq_false'] at this
    show PySem.Str.isSurrogate c = false
    simpa using this c hc
  have hf : x.cps.findIdx? _codecs.utf8Codec.bad = none := by
    rw [Array.findIdx?_eq_none_iff]
    intro c hc
    exact hb c hc
  unfold _codecs.encodeNarrow
  simp only [Std.Legacy.Range.forIn_eq_forIn_range', Std.Legacy.Range.size]
  by_cases h0 : x.length = 0
  · have : x.cps = #[] := Array.eq_empty_of_size_eq_zero h0
    have e : encB x = #[] := by unfold encB; rw [this]; rfl
    rw [h0, e]
    rfl
  · have hn : 0 < (x.length - 0 + 1 - 1) / 1 := by omega
    rw [loop_two _ _ (x.cps.size, encB x, {}) ?_ ?_ _ hn]
    · rfl
    · have e0 : x.cps[0]? = some (x.cps[0]'(Nat.pos_of_ne_zero h0)) := Array.getElem?_eq_getElem _
      dsimp only
      rw [if_neg (by simp), e0]
      dsimp only
      have hb0 : _codecs.utf8Codec.bad (x.cps[0]'(Nat.pos_of_ne_zero h0)) = false := hb _ (Array.getElem_mem _)
      rw [hb0, if_pos (show (!false) = true from rfl), show x.cps.extract 0 x.cps.size = x.cps from by simp, hf]
      show pure (ForInStep.yield (0 + x.cps.size, (x.cps.extract 0 x.cps.size).foldl (fun acc y => acc ++ (_codecs.utf8Codec.bytesOf y).toArray) #[], ({} : _codecs.Faults))) = _
      rw [show x.cps.extract 0 x.cps.size = x.cps from by simp, Nat.zero_add]
      rfl
    · intro c
      have e1 : x.cps[x.cps.size]? = none := by simp
      dsimp only
      rw [if_neg (by have : x.length ≤ 100000 := hx; omega), e1]
theorem args_encode (a b : Value) : argsOk "str.encode" ⟨[a, b], []⟩ := by unfold argsOk; kernel_rfl
theorem slot_encode : Slot "str" "encode" "str.encode" :=
  .of (owner := "str") (n := "encode") (by rw [typeLookup_type, builtinLookup_eq_fast]; kernel_rfl) (by decide +kernel) (by decide +kernel) (by decide +kernel)
    (by first | exact .inl (by decide +kernel) | exact .inr (by decide +kernel)) (by rw [isSubtype_type]; kernel_rfl)
theorem type_encode : typeOf (.builtin "str.encode") = pure (.type "method_descriptor") := by show builtinType _ = _; rw [builtinType_eq_fast]; kernel_rfl
theorem entry_encode : entryFor table "str.encode" = some Builtin.«str.encode» := entryFor_of_tree (by kernel_rfl)
theorem encode_two (x : PySem.Str) (t u : Tok) : Builtin.«str.encode» ⟨[.str x t, .str (PySem.Str.ofString "utf-8") u], []⟩ = (do ret (← _codecs.encodeRoad "str.encode" (.str x t) x (PySem.Str.ofString "utf-8") none)) := by
  kernel_rfl
section
variable {prog : Program} {w : World} {A : Around} {E : Value → Shared → Prop} {s : Shared} {x : PySem.Str} {t u : Tok}
theorem call_encode {Q : Value → Shared → Prop} (hp : Plain x) (hx : x.length ≤ 100000) (h : ∀ t' k, Q (.bytes (encB x) t') { s with toks := k }) :
    wpAny (model prog w) A (call (.builtin "str.encode") [.str x t, .str (PySem.Str.ofString "utf-8") u]) Q E s := by
  have hz := enc_size x
  refine wpAny_call_entry slot_encode (typeIs_str _ _ _) entry_encode ?_ (args_encode _ _)
  rw [encode_two, encodeRoad_utf8, narrow _ _ _ hp hx]
  refine wpAny_bind (wpAny_bind (wpAny_pure (wpAny_mkBytes ?_ (by rw [sizeLine_eq]; omega))))
  exact wpAny_pure ⟨_, rfl, h _ _⟩
end
end Mine
end
section
open PySem PySem.W PyProof.Rows PySem.Calls
set_option Elab.async false
set_option maxRecDepth 100000
set_option maxHeartbeats 1000000
namespace Mine
def synB : List Value := [.type "SyntaxError", .type "Exception", .type "BaseException", .type "object"]
theorem store_Syntax : StoreFacts "SyntaxError" synB "object.__setattr__" "object" where
  mro := by kernel_rfl
  slot := .of (owner := "object") (n := "__setattr__") (by rw [typeLookup_type, builtinLookup_eq_fast]; kernel_rfl) (by decide +kernel) (by decide +kernel) (by decide +kernel)
    (by first | exact .inl (by decide +kernel) | exact .inr (by decide +kernel)) (by rw [isSubtype_type]; kernel_rfl)
  entry := PySem.F.entry_object_sa
  kind := by decide +kernel
  split := by decide +kernel
  hasOwner := by decide +kernel
  args := fun a b c => by unfold argsOk; kernel_rfl
  passes := fun self => by kernel_rfl
/-- the class BadSyntax in the written heap -/
abbrev badC : Obj := excClassObj "BadSyntax" "BadSyntax" 158 157 [.type "SyntaxError"] synB true [] [] false none none (some (.ref 142)) none (some (.str "BadSyntax" 646)) (some (.str "BadSyntax" 654)) (some (.bool true)) "Exception.__new__"
theorem bad_at (w : World) {h : Heap} (X : (Mine.hd.heap_39 w.params).In h) : h.get? 158 = some badC := X 158 _ rfl
theorem bad_ns (w : World) {h : Heap} (X : (Mine.hd.heap_39 w.params).In h) : ∃ mN, h.Ns 157 mN ∧ mN "__init__" = some (.ref 155) ∧ mN "__setattr__" = none ∧ mN "_str" = none ∧ mN "_i" = none ∧ mN "_why" = none ∧ mN "lines" = none ∧ mN "_uri" = none := by
  have h0 : ∃ o es ep, (Mine.hd.heap_39 w.params).lookup 157 = some o ∧ o.data = .dict es ep ∧ StrKeys es ∧ nsFind es "__init__" = some (.ref 155) ∧ nsFind es "__setattr__" = none ∧ nsFind es "_str" = none ∧ nsFind es "_i" = none ∧ nsFind es "_why" = none ∧ nsFind es "lines" = none ∧ nsFind es "_uri" = none := by
    refine ⟨_, _, _, rfl, rfl, ?_, rfl, rfl, rfl, rfl, rfl, rfl, rfl⟩
    intro e he
    simp only [List.mem_toArray, List.mem_cons, List.not_mem_nil, or_false] at he
    rcases he with rfl | rfl | rfl | rfl | rfl | rfl <;> exact ⟨_, _, rfl⟩
  obtain ⟨o, es, ep, ho, hd, hk, r⟩ := h0
  exact ⟨nsFind es, ⟨o, es, ep, X 157 _ ho, hd, hk, fun _ => rfl⟩, r⟩
theorem fn_155 (w : World) {h : Heap} (X : (Mine.hd.heap_39 w.params).In h) : ∃ o, h.get? 155 = some o ∧ o.cls = .type "function" := ⟨_, X 155 _ rfl, rfl⟩
section
variable {prog : Program} {w : World} {A : Around} {E : Value → Shared → Prop} {h : Heap} {g : Array GenState} {d : Drawn} {t : Nat} {os : OsState}
theorem new_bad {rest : List Value} {R : Result → Shared → Prop} (hC : h.get? 158 = some badC)
    (hq : R (.ok (.ret (.ref (h.objs.size + 1)))) ⟨(h.push { cls := .type "tuple", data := .seq rest.toArray }).push { cls := .ref 158, data := .fields #[.ref h.objs.size, .none, .none, .none, .bool false, .none] }, g, d, t, os⟩) (hrest : rest.length ≤ sizeLine) :
    codeAny (model prog w) A (.builtin "Exception.__new__" ⟨.ref 158 :: rest, []⟩) R ⟨h, g, d, t, os⟩ := by
  have hends := PySem.F.excBase_Exception.ends
  have hcB : (Value.ref 158 :: synB).contains (.type "Exception") = true := by decide
  have hcA : (Value.ref 158 :: synB).contains (.type "AttributeError") = false := by decide
  have hcN : (Value.ref 158 :: synB).contains (.type "NameError") = false := by decide
  refine codeAny_builtinAt PySem.F.excBase_Exception.entry ?_
  unfold Builtin.«BaseException.__new__»
  refine PySem.wpAt_bind ?_
  show PySem.wpAt _ _ _ (stack >>= _) _ _ _
  refine PySem.wpAt_bind (PySem.wpAt_stack fun p below => PySem.wpAt_of_wpAny ?_)
  wp_walk
  refine PySem.wpAt_of_wpAny ?_
  rw [PySem.F.excBase_Exception.owner]
  repeat (first | with_reducible refine wpAny_madeHere_exc PySem.F.excBase_Exception.canon hC ?_ | with_reducible refine wpAny_loadPart_at hC ?_ | (with_reducible refine wpAny_isSubtype_exc hC ?_; first | rw [hcB] | rw [hcA] | rw [hcN]) | wp_step)
  show R _ _
  rw [Heap.size_push]
  exact hq
theorem check_bad {M : Model} {rest : List Value} {Q : Unit → Shared → Prop} (hC : h.get? 158 = some badC) (hq : Q () ⟨h, g, d, t, os⟩) : wpAny M A (checkBuiltinCall "Exception.__new__" ⟨.ref 158 :: rest, []⟩) Q E ⟨h, g, d, t, os⟩ := by
  have hcont : (Value.ref 158 :: synB).contains (.type "Exception") = true := by decide
  have hstar := PySem.F.excBase_Exception.noStar
  simp only [checkBuiltinCall, PySem.F.excBase_Exception.newKind, PySem.F.excBase_Exception.newSplit, PySem.F.excBase_Exception.newRow]
  repeat (first | refine wpAny_loadPart_at hC ?_ | (refine wpAny_isSubtype_exc hC ?_; rw [hcont]) | refine wpAny_staticBase_exc hC ?_ | refine wpAny_madeBy_exc hC ?_ | simp only [bne_self_eq_false, Bool.false_eq_true, if_false] | wp_step)
  exact hq
/-- the class called: the object is made, and its __init__ called -/
theorem type_call_bad {rest : List Value} {Q : Fin → Shared → Prop} (X : (Mine.hd.heap_39 w.params).In h)
    (hq : ∀ h' e, Heap.MadeExcOf h h' e (.ref 158) rest → wpAny (model prog w) A (call (.ref 155) (.ref e :: rest)) (fun r s' => r = .none ∧ Q (.done (.ret (.ref e))) s') E ⟨h', g, d, t, os⟩) (hrest : rest.length ≤ sizeLine) :
    wpAny (model prog w) A (Builtin.«type.__call__» ⟨.ref 158 :: rest, []⟩) Q E ⟨h, g, d, t, os⟩ := by
  have hC := bad_at w X
  obtain ⟨mN, hn, hi, _⟩ := bad_ns w X
  obtain ⟨oI, hfI, hfc⟩ := fn_155 w X
  repeat (first | with_reducible refine wpAny_loadPart_at hC ?_ | with_reducible refine wpAny_madeBy_exc hC ?_ | wp_step)
  refine codeAny_call_builtin_code (Code.quiet_builtin _ PySem.F.excBase_Exception.quiet) (check_bad hC ?_)
  refine new_bad hC ?_ hrest
  show wpAny _ _ _ _ _ _
  have up : ∀ b o, h.get? b = some o → ((h.push { cls := .type "tuple", data := .seq rest.toArray }).push { cls := .ref 158, data := .fields #[.ref h.objs.size, .none, .none, .none, .bool false, .none] }).get? b = some o :=
    fun b o e => Heap.get?_push_of_some _ (Heap.get?_push_of_some _ e)
  have hC₁ := up _ _ hC
  have hfI₁ := up _ _ hfI
  have hn₁ := hn.keeps up
  have hget : ((h.push { cls := .type "tuple", data := .seq rest.toArray }).push
      { cls := .ref 158, data := .fields #[.ref h.objs.size, .none, .none, .none, .bool false, .none] }).get? (h.objs.size + 1) = some
      { cls := .ref 158, data := .fields #[.ref h.objs.size, .none, .none, .none, .bool false, .none] } := by heap_get
  have hcC : (Value.ref 158 :: synB).contains (.ref 158) = true := by decide
  unfold isInstance
  repeat (first | with_reducible refine wpAny_loadPart_at hget ?_ | (with_reducible refine wpAny_isSubtype_exc hC₁ ?_; rw [hcC]) | wp_step)
  show wpAny _ _ (typeLookup (.ref 158) _) _ _ _
  rw [typeLookup_eq]
  refine wpAny_bind (wpAny_mroOf_exc hC₁ ?_)
  rw [lookupAlong_cons]
  refine wpAny_bind (wpAny_classOwn_exc hC₁ hn₁ ?_)
  rw [hi]
  refine wpAny_pure (wpAny_holding (wpAny_bind ?_))
  unfold bindSpecial
  refine wpAny_bind (wpAny_typeOf (T := "function") ⟨_, hfI₁, hfc⟩ ?_)
  rw [if_pos (by decide)]
  refine wpAny_pure (wpAny_bind (wpAny_mono (hq _ (h.objs.size + 1) ⟨up, Heap.get?_none_of_le (Nat.le_succ _), h.objs.size, hget, Heap.get?_none_of_le (Nat.le_refl _), ?_⟩) (fun r s' hr => ?_) fun _ _ x => x))
  · exact Heap.get?_push_of_some _ (Heap.get?_push_at rfl rfl)
  · obtain ⟨rfl, hQ⟩ := hr
    wp_walk
    exact hQ
theorem call_bad {rest : List Value} {Q : Value → Shared → Prop} (X : (Mine.hd.heap_39 w.params).In h)
    (hq : ∀ h' e, Heap.MadeExcOf h h' e (.ref 158) rest → wpAny (model prog w) (A.under (.builtin "type.__call__" ⟨.ref 158 :: rest, []⟩)) (call (.ref 155) (.ref e :: rest)) (fun r s' => r = .none ∧ Q (.ref e) s') E ⟨h', g, d, t, os⟩) (hrest : rest.length ≤ sizeLine) :
    wpAny (model prog w) A (call (.ref 158) rest) Q E ⟨h, g, d, t, os⟩ := by
  have hC := bad_at w X
  have f1 := tc_lookup
  have f2 := tc_bind (.ref 158)
  have hT : (⟨h, g, d, t, os⟩ : Shared).TypeIs (.ref 158) "type" := ⟨_, hC, rfl⟩
  refine wpAny_call (codeAny_of_tree ?_)
  show wpAny _ _ (callAny (.ref 158) _) _ _ _
  repeat (any_goals (first | assumption | with_reducible refine wpAny_loadPart_at hC ?_ | wp_step))
  refine ⟨rfl, ?_⟩
  refine codeAny_call_builtin_at (Code.quiet_builtin _ (by decide +kernel)) entry_typeCall (wpAny_check_type_call_sub hC (type_call_bad X (fun h' e hm => ?_) hrest))
  exact hq h' e hm
end
end Mine
end
section
open PySem PySem.W PyProof.Rows PySem.Calls Builtin Builtin.ObjectAttr
set_option Elab.async false
set_option maxRecDepth 100000
set_option maxHeartbeats 1000000
namespace Mine
def DictIs (o : Obj) (m : PySem.Str → Option Value) : Prop := ∃ es ep, o.data = .dict es ep ∧ StrKeys es ∧ UniqKeys es ∧ ∀ name, nsFind es name = m name
theorem DictIs.ns1 {h : Heap} {d : Addr} {o : Obj} {m : PySem.Str → Option Value} (D : DictIs o m) (hd : h.get? d = some o) : h.Ns1 d m := by
  obtain ⟨es, ep, r⟩ := D
  exact ⟨o, es, ep, hd, r⟩
/-- an object of BadSyntax, its own dict aside -/
def badO (d : Option Addr) (tp : Addr) : Obj := { cls := .ref 158, dict := d, data := .fields #[.ref tp, .none, .none, .none, .bool false, .none] }
section
variable {prog : Program} {w : World} {A : Around} {E : Value → Shared → Prop} {h : Heap} {g : Array GenState} {d : Drawn} {t : Nat} {os : OsState}
theorem check_set {M : Model} {x : Addr} {o : Obj} {nameV v : Value} {Q : Unit → Shared → Prop} (hC : h.get? 158 = some badC) (hx : h.get? x = some o) (hc : o.cls = .ref 158) (hq : Q () ⟨h, g, d, t, os⟩) :
   wpAny M A (checkBuiltinCall "object.__setattr__" ⟨[.ref x, nameV, v], []⟩) Q E ⟨h, g, d, t, os⟩ := by
  have k := fun hC hx hc hq => @wpAny_check_sa A E h g d t os "BadSyntax" "BadSyntax" 158 157 x [.type "SyntaxError"] synB [] [] false none none (some (.ref 142)) none (some (.str "BadSyntax" 646)) (some (.str "BadSyntax" 654)) (some (.bool true)) "SyntaxError" "Exception.__new__" "object.__setattr__" "object" v M o nameV Q store_Syntax hC hx hc hq
  exact k hC hx hc hq
end
section
variable {w : World} {A : Around} {E : Value → Shared → Prop} {s : Shared} {h₀ : Heap} {L : Addr} {m mA : PySem.Str → Option Value} {news : List (Addr × Obj)} {e d tp : Addr} {od : Obj} {name : PySem.Str} {v : Value} {prog : Program}
theorem syn_none (name : PySem.Str) (h : name = "_str" ∨ name = "_i" ∨ name = "_why" ∨ name = "lines" ∨ name = "_uri") : typeLookup (.type "SyntaxError") name = pure none := by
  rcases h with rfl | rfl | rfl | rfl | rfl <;> (rw [typeLookup_type, builtinLookup_eq_fast]; kernel_rfl)
theorem bad_more {ns : List PySem.Str} {Q : Unit → Shared → Prop} (X : (Mine.hd.heap_39 w.params).In h₀) (F : Fr h₀ L s.heap m) (N : News h₀ L s.heap ((e, badO (some d) tp) :: (d, od) :: news)) (hr : ∀ p ∈ news, p.1 ≠ e ∧ p.1 ≠ d) (hed : d ≠ e) (D : DictIs od mA)
    (hname : name = "_str" ∨ name = "_i" ∨ name = "_why" ∨ name = "lines" ∨ name = "_uri") (hw : Within mA ns) (hsz : ns.length ≤ 16)
    (h : ∀ h' tk' od', Fr h₀ L h' m → News h₀ L h' ((e, badO (some d) tp) :: (d, od') :: news) → DictIs od' (fun y => if y = name then some v else mA y) → Q () { s with heap := h', toks := tk' }) :
    wpAny (model prog w) A (setAttr (.ref e) name v) Q E s := by
  obtain ⟨hp, g, dr, tk, os⟩ := s
  have he := N _ (.head _)
  have hd := N _ (.tail _ (.head _))
  have XF := X.keeps F.keep
  obtain ⟨mN, hn, _, hs, n1, n2, n3, n4, n5⟩ := bad_ns w XF
  have hna : mN name = none := by rcases hname with rfl | rfl | rfl | rfl | rfl <;> assumption
  have hC := bad_at w X
  refine store_attr store_Syntax (bad_at w XF) hn hs hna (syn_none name hname) (fun q => ?_) ⟨_, he.1, rfl, (fun c q => by cases q), .inr ⟨d, rfl, hed, D.ns1 hd.1⟩⟩ (fun h' tk' I' hk hsame => ?_) hw (by rw [sizeLine_eq]; omega)
  · have := he.2.2
    rw [show ((e, badO (some d) tp) : Addr × Obj).1 = 158 from q, hC] at this
    cases this
  have kk : ∀ b o, b ≠ e → b ≠ d → hp.get? b = some o → h'.get? b = some o := fun b o z1 z2 q => hk b o z1 (fun o₀ d' q1 q2 => by
    obtain rfl := Option.some.inj (he.1.symm.trans q1)
    obtain rfl := Option.some.inj q2
    exact z2) q
  have F' : Fr h₀ L h' m := by
    obtain ⟨oL, es, ep, eL, rL⟩ := F.ns
    exact ⟨⟨oL, es, ep, kk L oL (Ne.symm he.2.1) (Ne.symm hd.2.1) eL, rL⟩, fun b o q => kk b o (fun z => by rw [z] at q; rw [show h₀.get? e = none from he.2.2] at q; cases q) (fun z => by rw [z] at q; rw [show h₀.get? d = none from hd.2.2] at q; cases q) (F.keep b o q), F.above⟩
  obtain ⟨o₁, e1, c1, d1, s1, k1⟩ := hsame _ he.1
  obtain ⟨o', e', _, _, hd'⟩ := I'
  obtain rfl := Option.some.inj (e1.symm.trans e')
  have o1 : o₁ = badO (some d) tp := by
    have := k1 d rfl
    obtain ⟨oc, odt, oda, osl⟩ := o₁
    dsimp only at c1 d1 s1 this
    rw [c1, d1, s1, this]; rfl
  subst o1
  rcases hd' with ⟨hn0, _⟩ | ⟨d', q', _, od', es, ep, g1, g2, g3, g4, g5⟩
  · cases hn0
  obtain rfl := Option.some.inj q'
  refine h h' tk' od' F' ?_ ⟨es, ep, g2, g3, g4, g5⟩
  intro p hp'
  rcases List.mem_cons.mp hp' with rfl | hp'
  · exact ⟨e1, he.2⟩
  rcases List.mem_cons.mp hp' with rfl | hp'
  · exact ⟨g1, hd.2⟩
  · have := N p (.tail _ (.tail _ hp'))
    exact ⟨kk _ _ (hr p hp').1 (hr p hp').2 this.1, this.2⟩
/-- the first store: the object's dict is made -/
theorem bad_first {Q : Unit → Shared → Prop} (X : (Mine.hd.heap_39 w.params).In h₀) (F : Fr h₀ L s.heap m) (N : News h₀ L s.heap ((e, badO none tp) :: news)) (hr : ∀ p ∈ news, p.1 ≠ e)
    (hname : name = "_str" ∨ name = "_i" ∨ name = "_why" ∨ name = "lines" ∨ name = "_uri")
    (h : ∀ h' tk' d od', (∀ p ∈ news, p.1 ≠ e ∧ p.1 ≠ d) → Fr h₀ L h' m → News h₀ L h' ((e, badO (some d) tp) :: (d, od') :: news) → d ≠ e → DictIs od' (fun y => if y = name then some v else none) → Q () { s with heap := h', toks := tk' }) :
    wpAny (model prog w) A (setAttr (.ref e) name v) Q E s := by
  obtain ⟨hp, g, dr, tk, os⟩ := s
  have he := N _ (.head _)
  have XF := X.keeps F.keep
  obtain ⟨mN, hn, _, hs, n1, n2, n3, n4, n5⟩ := bad_ns w XF
  have hna : mN name = none := by rcases hname with rfl | rfl | rfl | rfl | rfl <;> assumption
  have hC := bad_at w XF
  have hx : hp.get? e = some (badO none tp) := he.1
  have hC : hp.get? 158 = some badC := hC
  have hn : hp.Ns 157 mN := hn
  obtain ⟨o, hx, hxc, hod, hnc, hoo⟩ : ∃ o, hp.get? e = some o ∧ o.cls = .ref 158 ∧ o.dict = none ∧ (∀ c, o.data ≠ .cls c) ∧ ∀ d, ({ cls := o.cls, dict := some d, data := o.data, slots := o.slots } : Obj) = badO (some d) tp :=
    ⟨_, hx, rfl, rfl, (fun c q => by cases q), fun _ => rfl⟩
  have f3 := store_Syntax.slot.bind (.ref e)
  unfold setAttr callSpecial? specialOf
  repeat (any_goals (first | assumption | (with_reducible refine wpAny_loadPart_at hx ?_; rw [hxc]) | (with_reducible refine wpAny_typeLookup_exc hC hn store_Syntax.mro store_Syntax.slot.lookup ?_; rw [hs]) | wp_step))
  show codeAny _ _ (.call (.builtin "object.__setattr__") ⟨[.ref e, .str name tk, v], []⟩) _ _
  refine codeAny_call_builtin store_Syntax.slot.plain store_Syntax.entry ?_
  refine check_set hC hx hxc ?_
  have hpass := store_Syntax.passes (.ref e)
  unfold Builtin.«object.__setattr__»
  repeat (first | rw [refuse_eq] | (rw [refuseLoop_ref, hpass]) | (with_reducible refine wpAny_loadPart_at hx ?_; rw [hxc]) | with_reducible refine wpAny_mroOf_exc hC ?_ | (with_reducible refine wpAny_typeLookup_exc hC hn store_Syntax.mro (syn_none name hname) ?_; rw [hna]) | wp_step)
  rw [hod, if_neg (by simp [typeHasDict])]
  split
  · rename_i hcd
    cases hcd
  split
  · rename_i c hcd
    exact absurd hcd (hnc c)
  have hxs : e ≠ hp.objs.size := Nat.ne_of_lt (Heap.lt_size hx)
  have hx₁ : (hp.push { cls := .type "dict", data := .dict #[] }).get? e = some o := Heap.get?_push_of_some _ hx
  refine wpAny_bind (wpAny_alloc' ?_)
  refine wpAny_bind (wpAny_update' hx₁ ?_)
  refine wpAny_pure ?_
  show wpAny _ _ (storeInDict hp.objs.size (.str name (tk)) name v) _ _ _
  unfold storeInDict newKeyGuard
  have hgd : ((hp.push { cls := .type "dict", data := .dict #[] }).update e fun o => { cls := o.cls, dict := some hp.objs.size, data := o.data, slots := o.slots }).get? hp.objs.size = some { cls := .type "dict", data := .dict #[] } :=
    (Heap.get?_update_ne _ _ _ _ hxs.symm).trans (Heap.get?_push_at rfl rfl)
  have hnd : ((hp.push { cls := .type "dict", data := .dict #[] }).update e fun o => { cls := o.cls, dict := some hp.objs.size, data := o.data, slots := o.slots }).Ns hp.objs.size (fun _ => none) :=
    ⟨_, #[], _, hgd, rfl, fun e he => absurd he (by simp), fun _ => rfl⟩
  refine wpAny_bind (wpAny_pure (wpAny_bind (wpAny_nsSet1 (Heap.Ns1.of_empty hnd) fun h' hn' hs => ?_)))
  obtain ⟨oD, esD, epD, hoD, hdD, hcD⟩ := hn'.count (Within.cons name v Within.nil)
  refine wpAny_bind (wpAny_lookBehind hoD (by rw [hdD]; exact pastItsLine_dict (Nat.le_trans hcD (by rw [List.length_cons, List.length_nil, sizeLine_eq]; omega))) ?_)
  wp_walk
  have old : ∀ b o, b ≠ e → hp.get? b = some o → h'.get? b = some o := fun b o hbx hb =>
    (hs.2 b (Nat.ne_of_lt (Heap.lt_size hb))).trans ((Heap.get?_update_ne _ _ _ _ hbx).trans (Heap.get?_push_of_some _ hb))
  have new : h'.get? e = some (badO (some hp.objs.size) tp) := by
    rw [← hoo]
    refine (hs.2 e hxs).trans (Heap.get?_update_self _ hx₁ ?_)
    have hfr := (Heap.get?_some_iff.mp hx).2
    obtain ⟨oc, od, odt, osl⟩ := o
    cases odt <;> first | rfl | exact hfr
  have dn : hp.get? hp.objs.size = none := Heap.get?_none_of_le (Nat.le_refl _)
  have d0 : h₀.get? hp.objs.size = none := by
    cases q : h₀.get? hp.objs.size with
    | none => rfl
    | some o => have := F.keep _ _ q; rw [show (Shared.mk hp g dr tk os).heap.get? hp.objs.size = none from dn] at this; cases this
  obtain ⟨oL, es, ep, eL, rL⟩ := F.ns
  have F' : Fr h₀ L h' m := ⟨⟨oL, es, ep, old L oL (Ne.symm he.2.1) eL, rL⟩, fun b o q => old b o (fun z => by rw [z] at q; rw [show h₀.get? e = none from he.2.2] at q; cases q) (F.keep b o q), F.above⟩
  obtain ⟨od', es', ep', g1, g2, g3, g4, g5⟩ := hn'
  refine h h' _ hp.objs.size od' (fun p hp' => ⟨hr p hp', fun z => by have := (N p (.tail _ hp')).1; rw [z, show (Shared.mk hp g dr tk os).heap.get? hp.objs.size = none from dn] at this; cases this⟩) F' ?_ hxs.symm ⟨es', ep', g2, g3, g4, g5⟩
  intro p hp'
  rcases List.mem_cons.mp hp' with rfl | hp'
  · exact ⟨new, he.2⟩
  rcases List.mem_cons.mp hp' with rfl | hp'
  · refine ⟨g1, ?_, d0⟩
    intro z
    have z : hp.objs.size = L := z
    rw [← z] at eL
    rw [show (Shared.mk hp g dr tk os).heap.get? hp.objs.size = none from dn] at eL
    cases eL
  · have := N p (.tail _ hp')
    exact ⟨old _ _ (hr p hp') this.1, this.2⟩
end
theorem bad_made {h h' : Heap} {e : Addr} {rest : List Value} (hm : Heap.MadeExcOf h h' e (.ref 158) rest) : ∃ tp, h'.get? e = some (badO none tp) ∧ h.get? tp = none ∧ h'.get? tp = some { cls := .type "tuple", data := .seq rest.toArray } ∧ tp ≠ e := by
  obtain ⟨tp, h1, h2, h3⟩ := hm.there
  refine ⟨tp, h1, h2, h3, fun z => ?_⟩
  rw [z, h1] at h3
  cases h3
end Mine
end
section
local macro_rules | `(tactic| walk_at "no such word") => `(tactic| fail)
theorem Mine.fresh_C3 : True := by
  w_top off
  k_with_none
  trivial
open PySem PySem.W PyProof.Rows PySem.Calls
set_option Elab.async false
set_option maxRecDepth 100000
set_option maxHeartbeats 1000000
namespace Mine
/-- what an object of BadSyntax keeps -/
def BadD (o : Obj) (uri lines : Value) (x : PySem.Str) (i why : Value) : Prop :=
  ∃ t, DictIs o (fun y => if y = "_uri" then some uri else if y = "lines" then some lines else if y = "_why" then some why else if y = "_i" then some i else if y = "_str" then some (.bytes (encB x) t) else none)
local macro_rules | `(tactic| walk_at "getMethod str") => `(tactic| (k_here; (with_reducible show wpAny _ _ (getMethod (Value.str _ _) (Str.ofString "encode") _) _ _ _); (refine getMethod_builtin (typeIs_str _ _ _) PySem.F.plainAttrs_str slot_encode type_encode (fun a e => nomatch e) ?_)))
local macro_rules | `(tactic| walk_at "call builtin:str.encode") => `(tactic| (k_here; (refine call_encode (by assumption) (by assumption) ?_); intro t' k'))
local macro_rules | `(tactic| walk_at "setAttr ref") => `(tactic| (k_here; first
  | (refine bad_first (by assumption) (by assumption) (by assumption) (by assumption) (by decide) ?_; intro h' tk' d' od' hr' F' N' hde' D')
  | (refine bad_more (by assumption) (by assumption) (by assumption) (by assumption) (by assumption) (by assumption) (by decide) (by within_ways) (by decide) ?_; intro h' tk' od' F' N' D')))
/-- a place in a frame, with what is being handled -/
abbrev topH (hnd : Option Value) (dp un : Nat) (gd : Option (List Code)) (cn : PySem.Str) (cs : Scope) (L a : Addr) (ccd : Value) (cl : List (PySem.Str × Addr)) (outer : List Env) : Around := { handled := hnd, depth := dp, frames := some (envX cn cs L a ccd cl :: outer), guards := gd, units := un }
theorem topH_under (hnd : Option Value) (dp un : Nat) (gd : Option (List Code)) (cn : PySem.Str) (cs : Scope) (L a : Addr) (ccd : Value) (cl : List (PySem.Str × Addr)) (outer : List Env) (rest : List Value) :
    (topH hnd dp un gd cn cs L a ccd cl outer).under (.builtin "type.__call__" ⟨.ref 158 :: rest, []⟩) = topH hnd (dp + 1) (un + 1) gd cn cs L a ccd cl outer := by
  cases gd <;> rfl
section
theorem bad_make (w : World) (p : Program) (loose : List PySem.Str) (mean : ExcName → Option Value) (mg mb : PySem.Str → Option Value) (news : List (Addr × Obj)) (x : PySem.Str) (tx : Tok) (uri lines i why : Value)
  (hnd : Option Value) (dp un : Nat) (gd : Option (List Code)) (cn : PySem.Str) (cs : Scope) (a' : Addr) (ccd : Value) (cl : List (PySem.Str × Addr)) (outer : List Env) (A₀ : Around) (base h₀ : Heap) (L : Addr) (m : PySem.Str → Option Value) (s : Shared) (Q E : Value → Shared → Prop) (e tp : Addr)
    (B : Below A₀ base outer h₀) (F : Fr h₀ L s.heap m) (N : News h₀ L s.heap ((e, badO none tp) :: news)) (hr : ∀ p ∈ news, p.1 ≠ e) (T : Top p loose mean mg mb h₀) (hk : cs.kind = .function)
    (hd : dp + 1 < recursionLimit) (hu : un + 8 < cLine) (hp : Plain x) (hx : x.length ≤ 100000)
    (hret : ∀ d od h' tk', (∀ p ∈ news, p.1 ≠ e ∧ p.1 ≠ d) → Fr h₀ L h' m → News h₀ L h' ((e, badO (some d) tp) :: (d, od) :: news) → d ≠ e → BadD od uri lines x i why → Q .none { s with heap := h', toks := tk' }) : (Mine.hd.heap_39 w.params).In h₀ →
      wpAny (model PySem.Challenge.rw_ez5014_01.row.prog w) (topH hnd dp un gd cn cs L a' ccd cl outer) (call (.ref 155) [.ref e, uri, lines, .str x tx, i, why]) Q E s := by
  k_fill
  intro X
  refine wpAny_call ?_
  k_dflt cell_enter
  k_steps
  rename DictIs _ _ => D'
  rename News h₀ L _ _ => N'
  exact hret _ _ _ _ (by assumption) (by assumption) N' (by assumption) ⟨_, D'⟩

theorem bad_new (w : World) (p : Program) (loose : List PySem.Str) (mean : ExcName → Option Value) (mg mb : PySem.Str → Option Value) (news : List (Addr × Obj)) (x : PySem.Str) (tx : Tok) (uri lines i why : Value)
  (hnd : Option Value) (dp un : Nat) (gd : Option (List Code)) (cn : PySem.Str) (cs : Scope) (a' : Addr) (ccd : Value) (cl : List (PySem.Str × Addr)) (outer : List Env) (A₀ : Around) (base h₀ : Heap) (L : Addr) (m : PySem.Str → Option Value) (s : Shared) (Q E : Value → Shared → Prop)
    (B : Below A₀ base outer h₀) (F : Fr h₀ L s.heap m) (N : News h₀ L s.heap news) (T : Top p loose mean mg mb h₀) (hk : cs.kind = .function)
    (hd : dp + 2 < recursionLimit) (hu : un + 9 < cLine) (hp : Plain x) (hx : x.length ≤ 100000) (X : (Mine.hd.heap_39 w.params).In h₀)
    (hret : ∀ e d tp od h' tk', s.heap.get? e = none → (∀ p ∈ news, p.1 ≠ e ∧ p.1 ≠ d) → d ≠ e → Fr h₀ L h' m → News h₀ L h' ((e, badO (some d) tp) :: (d, od) :: news) → BadD od uri lines x i why → Q (.ref e) { s with heap := h', toks := tk' }) :
      wpAny (model PySem.Challenge.rw_ez5014_01.row.prog w) (topH hnd dp un gd cn cs L a' ccd cl outer) (call (.ref 158) [uri, lines, .str x tx, i, why]) Q E s := by
  obtain ⟨hp', g, dr, tk, os⟩ := s
  refine call_bad (w := w) (X.keeps F.keep) (fun h₁ e hm => ?_) (show 5 ≤ sizeLine by decide)
  rw [topH_under]
  obtain ⟨tp, he, htn, ht, hte⟩ := bad_made hm
  have F₁ : Fr h₀ L h₁ m := F.keeps hm.keeps
  have N₀ : News h₀ L h₁ news := fun q hq => ⟨hm.keeps _ _ (N q hq).1, (N q hq).2⟩
  have nf : ∀ {b : Addr}, hp'.get? b = none → h₀.get? b = none := fun {b} q => by
    cases z : h₀.get? b with
    | none => rfl
    | some o => have := F.keep b o z; rw [show (Shared.mk hp' g dr tk os).heap.get? b = none from q] at this; cases this
  have hne : ∀ {b : Addr}, hp'.get? b = none → ∀ q ∈ news, q.1 ≠ b := fun {b} z q hq w' => by have := (N q hq).1; rw [w', show (Shared.mk hp' g dr tk os).heap.get? b = none from z] at this; cases this
  have N₁ : News h₀ L h₁ ((e, badO none tp) :: news) := News.more F₁ N₀ he (fun es n q => by cases q) (nf hm.new)
  exact bad_make w p loose mean mg mb news x tx uri lines i why hnd (dp + 1) (un + 1) gd cn cs a' ccd cl outer A₀ base h₀ L m ⟨h₁, g, dr, tk, os⟩ _ _ e tp B F₁ N₁ (hne hm.new) T hk (by omega) (by omega) hp hx
    (fun d od h' tk' hr F' N' hde D => ⟨rfl, hret e d tp od h' tk' hm.new hr hde F' N' D⟩) X
end
end Mine
end
section
open PySem PySem.W PyProof.Rows PySem.Calls
set_option Elab.async false
set_option maxRecDepth 100000
set_option maxHeartbeats 1000000
namespace Mine
section
variable {prog : Program} {w : World} {A A₀ : Around} {E : Value → Shared → Prop} {s : Shared} {base g : Heap} {outer : List Env} {L a e d tp : Addr} {m : PySem.Str → Option Value} {name : PySem.Str} {scope : Scope} {cd ctx : Value} {news : List (Addr × Obj)}
theorem go_bad {Q : Flow → Shared → Prop} (X : (Mine.hd.heap_39 w.params).In s.heap) (he : s.heap.get? e = some (badO (some d) tp)) (h : wpAny (model prog w) A (raiseNew (.ref e) : Sem Flow) Q E s) : wpAny (model prog w) A (raiseGo (.ref e)) Q E s := by
  obtain ⟨hp, gg, dr, tk, os⟩ := s
  have hC := bad_at w X
  have hxc : (badO (some d) tp).cls = .ref 158 := rfl
  have hcB : (Value.ref 158 :: synB).contains (.type "BaseException") = true := by decide
  have hT : (⟨hp, gg, dr, tk, os⟩ : Shared).TypeIs (.ref 158) "type" := ⟨_, hC, rfl⟩
  have hsub : isSubtype (.type "type") (.type "type") = pure true := by rw [isSubtype_type]; kernel_rfl
  unfold raiseGo
  repeat (first | rw [hxc] | assumption | (with_reducible refine wpAny_isSubtype_exc hC ?_; rw [hcB]) | refine wpAny_loadPart_at he ?_ | wp_step)
theorem bad_leaves {Q : Flow → Shared → Prop} {Q1 : Value → Unit → Shared → Prop} {E1 : Value → Value → Shared → Prop} (X : (Mine.hd.heap_39 w.params).In g) (K : Below A₀ base outer g) (F : Fr g L s.heap m) (N : News g L s.heap ((e, badO (some d) tp) :: news)) (hr : ∀ p ∈ news, p.1 ≠ e) (hk : scope.kind = .function)
    (hctx : (A.handled = none ∧ ctx = .none) ∨ ∃ x, A.handled = some (.ref x) ∧ ctx = .ref x ∧ Ctxs s.heap e (.ref x))
    (k : ∀ h', Fly base g outer e (.ref 158) (some d) ctx news h' → Q1 (.ref e) () { s with heap := h' }) :
    wpAny (model prog w) A (raiseGo (.ref e)) Q (fun e s' => wpAny (model prog w) (A₀.deeper (envOf name scope L a cd)) (leaving (envOf name scope L a cd) e) (Q1 e) (E1 e) s') s := by
  have he := N _ (.head _)
  have hx : s.heap.get? e = some (badO (some d) tp) := he.1
  refine go_bad (X.keeps F.keep) hx ?_
  have FH : Fr g L (hideAll s.heap [e]) m := by
    obtain ⟨oL, es, ep, eL, rL⟩ := F.ns
    exact ⟨⟨oL, es, ep, hideAll_get _ eL (by simpa using Ne.symm he.2.1), rL⟩, fun b o q => hideAll_get _ (F.keep b o q) (by
      intro z
      rw [List.mem_singleton.mp z, show g.get? e = none from he.2.2] at q
      cases q), F.above⟩
  have NH : News g L (hideAll s.heap [e]) news := fun p hp => ⟨hideAll_get _ (N p (.tail _ hp)).1 (by simpa using hr p hp), (N p (.tail _ hp)).2⟩
  have hen : (hideAll s.heap [e]).get? e = none := hideAll_none _ (.head _)
  have oth : ∀ b o, (hideAll s.heap [e]).get? b = some o → b ≠ e := fun b o q z => by rw [z, hen] at q; cases q
  rcases hctx with ⟨hh, rfl⟩ | ⟨x, hh, rfl, hc⟩
  · unfold raiseNew
    refine wpAny_bind (wpAny_handled ?_)
    rw [hh]
    refine wpAny_throw ?_
    exact fly_first (h := hideAll s.heap [e]) (oe := badO (some d) tp) (vs := #[.ref tp, .none, .none, .none, .bool false, .none]) (a0 := .ref tp) K hx ⟨rfl, rfl, _, rfl, rfl⟩ rfl rfl rfl (fun b o q => of_hideAll _ q) hen FH NH hk k
  · refine new_in hh hc hx rfl (show 2 < 6 by decide) ?_
    refine fly_first (h := hideAll s.heap [e]) (oe := Obj.mapFields (·.setIfInBounds 2 (.ref x)) (badO (some d) tp)) (vs := #[.ref tp, .none, .ref x, .none, .bool false, .none]) (a0 := .ref tp) K
      (Heap.get?_update_self _ hx rfl) ⟨rfl, rfl, _, rfl, rfl⟩ rfl rfl rfl (fun b o q => ?_) hen FH NH hk k
    exact (Heap.get?_update_other _ _ (Ne.symm (oth b o q))).trans (of_hideAll _ q)
end
end Mine
end
section
open PySem PySem.W PyProof.Rows PySem.Calls
set_option Elab.async false
set_option maxRecDepth 100000
set_option maxHeartbeats 1000000
namespace Mine
/-- a reader of N3 whose document is doc -/
def ReaderAt (news : List (Addr × Obj)) (sx : Addr) (doc : PySem.Str) : Prop :=
  ∃ so sd es n t, (sx, so) ∈ news ∧ (sd, dictOf es n) ∈ news ∧ so.cls = .ref 137 ∧ so.dict = some sd ∧ notCls so = true ∧ getL "_thisDoc" es = some (some (.str doc t)) ∧ getL "_unicodeEscape" es = some none ∧ getL "uEscape" es = some none ∧ getL "UEscape" es = some none
theorem ReaderAt.more {news news' : List (Addr × Obj)} {sx : Addr} {doc : PySem.Str} (R : ReaderAt news sx doc) (h : ∀ p ∈ news, p ∈ news') : ReaderAt news' sx doc := by
  obtain ⟨so, sd, es, n, t, a, b, r⟩ := R
  exact ⟨so, sd, es, n, t, h _ a, h _ b, r⟩
theorem k_pg (w : World) (n : PySem.Str) : plainGet (Mine.hd.heap_39 w.params) 137 n = true := by kernel_rfl
theorem k_hd (w : World) : hasDictIn (Mine.hd.heap_39 w.params) 137 = true := by kernel_rfl
theorem k_nd (w : World) : findIn (Mine.hd.heap_39 w.params) (.ref 137) "_thisDoc" = some none := by kernel_rfl
theorem k_ng (w : World) : noGet (Mine.hd.heap_39 w.params) none = true := by kernel_rfl
theorem k_f1 (w : World) : findIn (Mine.hd.heap_39 w.params) (.ref 137) "_unicodeEscape" = some (some (.ref 113)) := by kernel_rfl
theorem k_f2 (w : World) : findIn (Mine.hd.heap_39 w.params) (.ref 137) "uEscape" = some (some (.ref 120)) := by kernel_rfl
theorem k_f3 (w : World) : findIn (Mine.hd.heap_39 w.params) (.ref 137) "UEscape" = some (some (.ref 127)) := by kernel_rfl
theorem k_i1 (w : World) : isFn (Mine.hd.heap_39 w.params) (.ref 113) = true := by kernel_rfl
theorem k_i2 (w : World) : isFn (Mine.hd.heap_39 w.params) (.ref 120) = true := by kernel_rfl
theorem k_i3 (w : World) : isFn (Mine.hd.heap_39 w.params) (.ref 127) = true := by kernel_rfl
section
variable {w : World} {A : Around} {E : Value → Shared → Prop} {s : Shared} {h₀ : Heap} {L : Addr} {m : PySem.Str → Option Value} {news : List (Addr × Obj)} {sx : Addr} {doc : PySem.Str} {prog : Program}
theorem reader_inst (R : ReaderAt news sx doc) (N : News h₀ L s.heap news) : ∃ so es n t, InstAt s.heap sx so 137 (some (dictOf es n)) ∧ getL "_thisDoc" es = some (some (.str doc t)) ∧ getL "_unicodeEscape" es = some none ∧ getL "uEscape" es = some none ∧ getL "UEscape" es = some none := by
  obtain ⟨so, sd, es, n, t, a, b, c, d, e, f⟩ := R
  exact ⟨so, es, n, t, ⟨(N _ a).1, c, e, by rw [d]; exact (N _ b).1⟩, f⟩
theorem reader_doc {expr : Bool} {Q : Value → Shared → Prop} (R : ReaderAt news sx doc) (F : Fr h₀ L s.heap m) (N : News h₀ L s.heap news) (X : (Mine.hd.heap_39 w.params).In h₀) (h : ∀ t k, Q (.str doc t) { s with toks := k }) :
    wpAny (model prog w) A (getAttr (.ref sx) "_thisDoc" expr) Q E s := by
  obtain ⟨so, es, n, t, I, hl, _⟩ := reader_inst R N
  exact get_own F X I (k_pg w _) (k_hd w) (k_nd w) (k_ng w) hl rfl (h _ _)
theorem reader_esc {pl : Sem Bool} {Q : Value × List Value → Shared → Prop} (R : ReaderAt news sx doc) (F : Fr h₀ L s.heap m) (N : News h₀ L s.heap news) (X : (Mine.hd.heap_39 w.params).In h₀) (h : Q (.ref 113, [.ref sx]) s) :
    wpAny (model prog w) A (getMethod (.ref sx) "_unicodeEscape" pl) Q E s := by
  obtain ⟨so, es, n, t, I, hl, h1, h2, h3⟩ := reader_inst R N
  exact method_inst F X I (k_pg w _) (k_f1 w) (k_i1 w) h1 h
theorem reader_u {pl : Sem Bool} {Q : Value × List Value → Shared → Prop} (R : ReaderAt news sx doc) (F : Fr h₀ L s.heap m) (N : News h₀ L s.heap news) (X : (Mine.hd.heap_39 w.params).In h₀) (h : Q (.ref 120, [.ref sx]) s) :
    wpAny (model prog w) A (getMethod (.ref sx) "uEscape" pl) Q E s := by
  obtain ⟨so, es, n, t, I, hl, h1, h2, h3⟩ := reader_inst R N
  exact method_inst F X I (k_pg w _) (k_f2 w) (k_i2 w) h2 h
theorem reader_U {pl : Sem Bool} {Q : Value × List Value → Shared → Prop} (R : ReaderAt news sx doc) (F : Fr h₀ L s.heap m) (N : News h₀ L s.heap news) (X : (Mine.hd.heap_39 w.params).In h₀) (h : Q (.ref 127, [.ref sx]) s) :
    wpAny (model prog w) A (getMethod (.ref sx) "UEscape" pl) Q E s := by
  obtain ⟨so, es, n, t, I, hl, h1, h2, h3⟩ := reader_inst R N
  exact method_inst F X I (k_pg w _) (k_f3 w) (k_i3 w) h3 h
end
end Mine
end
section
local macro_rules | `(tactic| walk_at "no such word") => `(tactic| fail)
local macro_rules | `(tactic| walk_at "no such word") => `(tactic| fail)
theorem Mine.fresh_U2 : True := by
  w_top off
  k_with_none
  trivial
open PySem PySem.W PyProof.Rows PySem.Calls
set_option Elab.async false
set_option maxRecDepth 100000
set_option maxHeartbeats 2000000
namespace Mine
def DictFree (h : Heap) (P : Addr) : Prop := ∃ o, h.get? P = some o ∧ o.dict = none
theorem DictFree.keeps {h h' : Heap} {P : Addr} (x : DictFree h P) (k : ∀ b o, h.get? b = some o → h'.get? b = some o) : DictFree h' P := by
  obtain ⟨o, a, b⟩ := x
  exact ⟨o, k _ _ a, b⟩
local macro_rules | `(tactic| walk_at "getMethod ref") => `(tactic| (k_here; (with_reducible show wpAny _ _ (getMethod (Value.ref _) (Str.ofString "sub") _) _ _ _); (refine getMethod_sub (PatAt.keeps (by assumption) (Fr.keep (by assumption))) (DictFree.keeps (by assumption) (Fr.keep (by assumption))) ?_)))
local macro_rules | `(tactic| walk_at "getAttr ref") => `(tactic| (k_here; (refine reader_doc (by assumption) (by assumption) (by assumption) (by assumption) ?_); intro t' k'))
local macro_rules | `(tactic| walk_at "exec Raise some none") => `(tactic| (k_here; (refine Raise_go ?_)))
local macro_rules | `(tactic| walk_at "subscriptTail") => `(tactic| (k_here; (with_reducible rename Fr _ _ _ _ => F'); (with_reducible rename News _ _ _ _ => N'); (refine slice_strN_ss_len (hsz := ?hsz) (s := ⟨_, _, _, _, _⟩) F' N' ?_); (case hsz => (rw [PySem.sizeLine_eq]; omega)); intro h' t' k' F' N' hl'))
local macro_rules | `(tactic| walk_at "binaryOp Add str str") => `(tactic| (k_here; (refine KOpn.add (by simp only [PySem.Str.length_append] at *; (try kopn_lits); omega) ?_); intro t' k' hl'))
/-- the window that a hand's call cuts out -/
def winOf (x : PySem.Str) (i n : Nat) : PySem.Str := Txt.slice x (some (i : Int)) (some ((i : Int) + (n : Int)))
def tupO (vs : List Value) : Obj := { cls := .type "tuple", data := .seq vs.toArray }
theorem esc_all (w : World) (p : Program) (loose : List PySem.Str) (mean : ExcName → Option Value) (mg mb : PySem.Str → Option Value) (news : List (Addr × Obj)) (x : PySem.Str) (tx : Tok) (sx : Addr) (doc : PySem.Str) (i n : Nat) (ti tn : Tok) (line : Value) (P C : Addr) (u k : Nat) (pre : PySem.Str) (tp : Tok)
  (dp un : Nat) (gd : Option (List Code)) (cn : PySem.Str) (cs : Scope) (a' : Addr) (ccd : Value) (cl : List (PySem.Str × Addr)) (outer : List Env) (A₀ : Around) (base h₀ : Heap) (L : Addr) (m : PySem.Str → Option Value) (s : Shared) (Q E : Value → Shared → Prop)
    (B : Below A₀ base outer h₀) (F : Fr h₀ L s.heap m) (N : News h₀ L s.heap news) (T : Top p loose mean mg mb h₀) (TB : Top p loose mean mg mb base) (D : KtsDicts (outer.filterMap (·.frame)) h₀) (hcs : cs.kind = .function)
    (hd : dp + 4 < recursionLimit) (hu : un + 20 < cLine) (R : ReaderAt news sx doc) (hP : PatAt h₀ P C u k) (hPo : DictFree h₀ P) (hk : 0 < k) (hk8 : k ≤ 8) (hx : x.length ≤ 1000) (hpl : Plain x) (hpre : pre.length ≤ 4) (hi : i ≤ 1000) (hn : n ≤ 1000)
    (hraise : ∀ why ctx h₁ G e d od news' h' tk', KtsTurn (outer.filterMap (·.frame)) h₀ h₁ → Fr h₁ L G m → Below A₀ base outer h₁ → Fly base G (envX cn cs L a' ccd cl :: outer) e (.ref 158) (some d) ctx news' h' →
       (d, od) ∈ news' → (∀ q ∈ news, q ∈ news') → (∃ tw, BadD od (.str doc tw) line x (.int i ti) why) →
       ((x.length < i + n ∧ ∃ t, why = .str "unterminated string literal(3)" t) ∨ (i + n ≤ x.length ∧ turnOf u k (PySem.Str.ofString "\\" ++ pre ++ winOf x i n).cps 0 = none ∧ ∃ t, why = .str (PySem.Str.ofString "bad string literal hex escape: " ++ winOf x i n) t)) → E (.ref e) { s with heap := h', toks := tk' })
    (hret : i + n ≤ x.length → ∀ r, turnOf u k (PySem.Str.ofString "\\" ++ pre ++ winOf x i n).cps 0 = some r → ∀ tup t1 t2 h' tk', Fr h₀ L h' m → News h₀ L h' ((tup, tupO [.int ((i : Int) + (n : Int)) t1, .str ⟨r.toArray⟩ t2]) :: news) → Q (.ref tup) { s with heap := h', toks := tk' }) : (Mine.hd.heap_39 w.params).In h₀ → (Mine.hd.heap_39 w.params).In base →
      wpAny (model PySem.Challenge.rw_ez5014_01.row.prog w) (ktrTop dp un gd cn cs L a' ccd cl outer) (call (.ref 113) [.ref sx, .str x tx, .int (i : Int) ti, line, .ref P, .int (n : Int) tn, .str pre tp]) Q E s := by
  k_fill
  intro X XB
  refine wpAny_call ?_
  k_dflt cell_enter
  rename Fr h₀ L _ _ => FG
  have hPg := hP.keeps FG.keep
  have hPog := hPo.keeps FG.keep
  have DG := dicts_push' (name := cn) (scope := cs) (a := a') (cd := ccd) D FG
  rename Below _ _ (_ :: _) _ => BG
  rename Fr _ _ _ _ => F1
  rename News _ _ _ _ => N1
  rename Top _ _ _ _ _ _ => T1
  rename Frag.In _ _ => X1
  k_steps
  · refine' bad_new w p loose mean mg mb news x tx _ line _ _ none (dp + 1) _ _ _ _ _ _ _ _ _ base _ _ _ _ _ _ BG F1 N1 T1 ?hk ?hd ?hu hpl (by omega) X1 ?_
    case hk => rfl
    case hd => omega
    case hu => show un + 3 + 9 < cLine; omega
    intro e d tp od h' tk' hen hr hde F2 N2 BD
    k_steps
    have hr' : ∀ q ∈ ((d, od) :: news), q.1 ≠ e := fun q hq => by
      rcases List.mem_cons.mp hq with rfl | hq
      · exact hde
      · exact (hr q hq).1
    show wpAny _ _ _ _ (fun e s' => wpAny _ _ (leaving _ e) _ _ s') _
    refine' bad_leaves X1 BG F2 N2 hr' ?hk (.inl ⟨?hh, rfl⟩) ?k
    case hk => rfl
    case hh => rfl
    intro h5 R5
    exact hraise _ _ h₀ _ _ _ _ _ _ _ KtsTurn.refl FG B R5 (.head _) (fun q hq => .tail _ hq) ⟨_, BD⟩ (.inl ⟨by omega, _, rfl⟩)
  · rename Fr _ _ _ _ => F2
    rename News _ _ _ _ => N2
    have hlx : (PySem.Str.ofString "\\" ++ pre ++ Txt.slice x (some (i : Int)) (some ((i : Int) + (n : Int)))).length ≤ 5000 := by
      simp only [PySem.Str.length_append] at *
      have : (PySem.Str.ofString "\\").length = 1 := rfl
      omega
    refine' sub_call hk hk8 hlx hPg BG F2 N2 T1 TB DG ?hcs ?hd ?hu X1 XB ?hret ?hraise
    case hcs => rfl
    case hd => show dp + 1 + 1 < recursionLimit; omega
    case hu => show un + 3 + 12 < cLine; omega
    case hret =>
      intro r hr t h' tk' F3 N3
      k_steps
      exact hret (by omega) r hr _ _ _ _ _ (by assumption) (by assumption)
    case hraise =>
      intro hn1 h1 G e e1 oe1 dx h' tk' T2 F3 B3 R3 xo
      refine fly_look B3 F3 R3 (fun h2 R2 => ?_)
      refine fly_hit R2 F3 B3 XB TB (DG.turn T2) (test_name (c := .type "Exception") (.inr ⟨by k_is, PyProof.Rows.Boot.«Exception», by decide⟩) (by kts_exm) rfl rfl (by decide)) ?_
      intro h3 g3 oe T3 F4 N4 xo' B4 X4 P4 D4
      have R4 := R.more (news' := (e, oe) :: (e1, oe1) :: news) (fun q hq => .tail _ (.tail _ hq))
      k_steps
      rename Fr g3 _ _ _ => F5
      rename News g3 _ _ _ => N5
      refine' bad_new w p loose mean mg mb _ x tx _ line _ _ (some (.ref e)) (dp + 1) _ _ _ _ _ _ _ _ _ base _ _ _ _ _ _ B4 F5 N5 P4 ?hk ?hd ?hu hpl (by omega) X4 ?_
      case hk => rfl
      case hd => show dp + 1 + 2 < recursionLimit; omega
      case hu => show un + 3 + 9 < cLine; omega
      intro eb d tp od h' tk' hen hr hde F6 N6 BD
      k_steps
      have hr' : ∀ q ∈ ((d, od) :: (e, oe) :: (e1, oe1) :: news), q.1 ≠ eb := fun q hq => by
        rcases List.mem_cons.mp hq with rfl | hq
        · exact hde
        · exact (hr q hq).1
      show wpAny _ _ _ _ (fun e s' => wpAny _ _ (leaving _ e) _ _ s') _
      refine' bad_leaves X4 B4 F6 N6 hr' ?hk2 (.inr ⟨e, ?hh2, rfl, ?hc2⟩) ?k2
      case hk2 => rfl
      case hh2 => rfl
      case hc2 =>
        obtain ⟨c1, _, vs, v1, v2⟩ := xo'
        obtain ⟨c2, _, vs', v3, v4⟩ := xo
        have p1 := (N6 (e, oe) (by simp)).1
        have p2 := (N6 (e1, oe1) (by simp)).1
        refine .two (hr' (e, oe) (by simp)) (hr' (e1, oe1) (by simp)) (fun z => ?_) p1 v1 v2 p2 v3 v4
        have z : e1 = e := z
        subst z
        have this : oe = oe1 := Option.some.inj (p1.symm.trans p2)
        rw [← this, c1] at c2
        injection c2 with c
        exact absurd c (by decide)
      intro h5 R5
      obtain ⟨h₁, T₁, F₁, B₁⟩ := ground_up (name := cn) (scope := cs) (a := a') (cd := ccd) B FG (T2.trans T3)
      exact hraise _ _ h₁ _ _ _ _ _ _ _ T₁ F₁ B₁ R5 (.head _) (fun q hq => .tail _ (.tail _ (.tail _ hq))) ⟨_, BD⟩ (.inr ⟨by omega, hn1, _, rfl⟩)
end Mine
end
section
local macro_rules | `(tactic| walk_at "no such word") => `(tactic| fail)
local macro_rules | `(tactic| walk_at "no such word") => `(tactic| fail)
local macro_rules | `(tactic| walk_at "no such word") => `(tactic| fail)
local macro_rules | `(tactic| walk_at "no such word") => `(tactic| fail)
local macro_rules | `(tactic| walk_at "no such word") => `(tactic| fail)
local macro_rules | `(tactic| walk_at "no such word") => `(tactic| fail)
local macro_rules | `(tactic| walk_at "no such word") => `(tactic| fail)
local macro_rules | `(tactic| walk_at "no such word") => `(tactic| fail)
theorem Mine.fresh_U3 : True := by
  w_top off
  k_with_none
  trivial
open PySem PySem.W PyProof.Rows PySem.Calls
set_option Elab.async false
set_option maxRecDepth 100000
set_option maxHeartbeats 2000000
namespace Mine
def Stop (P : Prop) : Prop := P
theorem stop_at {P : Prop} (h : Stop P) : P := h
local macro_rules | `(tactic| walk_at "getMethod ref") => `(tactic| (k_here; (refine reader_esc (by assumption) (by assumption) (by assumption) (by assumption) ?_)))
local macro_rules | `(tactic| walk_at "call ref") => `(tactic| (k_here; (with_reducible show wpAny _ _ (call (Value.ref 113) _) _ _ _); refine stop_at ?_))
theorem u_all (w : World) (p : Program) (loose : List PySem.Str) (mean : ExcName → Option Value) (mg mb : PySem.Str → Option Value) (news : List (Addr × Obj)) (x : PySem.Str) (tx : Tok) (sx : Addr) (doc : PySem.Str) (i : Nat) (ti : Tok) (line : Value)
  (dp un : Nat) (gd : Option (List Code)) (cn : PySem.Str) (cs : Scope) (a' : Addr) (ccd : Value) (cl : List (PySem.Str × Addr)) (outer : List Env) (A₀ : Around) (base h₀ : Heap) (L : Addr) (m : PySem.Str → Option Value) (s : Shared) (Q E : Value → Shared → Prop)
    (B : Below A₀ base outer h₀) (F : Fr h₀ L s.heap m) (N : News h₀ L s.heap news) (T : Top p loose mean mg mb h₀) (TB : Top p loose mean mg mb base) (D : KtsDicts (outer.filterMap (·.frame)) h₀) (hcs : cs.kind = .function)
    (hd : dp + 5 < recursionLimit) (hu : un + 23 < cLine) (R : ReaderAt news sx doc) (hx : x.length ≤ 1000) (hpl : Plain x) (hi : i ≤ 1000)
    (hraise : ∀ why ctx h₁ G e d od news' h' tk', KtsTurn (outer.filterMap (·.frame)) h₀ h₁ → Fr h₁ L G m → Below A₀ base outer h₁ → Fly base G (envX cn cs L a' ccd cl :: outer) e (.ref 158) (some d) ctx news' h' →
       (d, od) ∈ news' → (∀ q ∈ news, q ∈ news') → (∃ tw, BadD od (.str doc tw) line x (.int i ti) why) →
       ((x.length < i + 4 ∧ ∃ t, why = .str "unterminated string literal(3)" t) ∨ (i + 4 ≤ x.length ∧ turnOf 117 4 (PySem.Str.ofString "\\" ++ PySem.Str.ofString "u" ++ winOf x i 4).cps 0 = none ∧ ∃ t, why = .str (PySem.Str.ofString "bad string literal hex escape: " ++ winOf x i 4) t)) → E (.ref e) { s with heap := h', toks := tk' })
    (hret : i + 4 ≤ x.length → ∀ r, turnOf 117 4 (PySem.Str.ofString "\\" ++ PySem.Str.ofString "u" ++ winOf x i 4).cps 0 = some r → ∀ tup t1 t2 h' tk', Fr h₀ L h' m → News h₀ L h' ((tup, tupO [.int ((i : Int) + (4 : Nat)) t1, .str ⟨r.toArray⟩ t2]) :: news) → Q (.ref tup) { s with heap := h', toks := tk' }) : (Mine.hd.heap_39 w.params).In h₀ → (Mine.hd.heap_39 w.params).In base →
      wpAny (model PySem.Challenge.rw_ez5014_01.row.prog w) (ktrTop dp un gd cn cs L a' ccd cl outer) (call (.ref 120) [.ref sx, .str x tx, .int (i : Int) ti, line]) Q E s := by
  k_fill
  intro X XB
  refine wpAny_call ?_
  k_dflt cell_enter
  rename Fr h₀ L _ _ => FG
  have DG := dicts_push' (name := cn) (scope := cs) (a := a') (cd := ccd) D FG
  rename Below _ _ (_ :: _) _ => BG
  rename Fr _ _ _ _ => F1
  rename News _ _ _ _ => N1
  rename Top _ _ _ _ _ _ => T1
  rename Frag.In _ _ => X1
  k_steps
  refine' esc_all w p loose mean mg mb news x tx sx doc i 4 ti _ line 50 49 117 4 (PySem.Str.ofString "u") _ (dp + 1) _ _ _ _ _ _ _ _ _ base _ _ _ _ _ _ BG F1 N1 T1 TB DG ?hcs ?hd ?hu R (pat4 w X1) ⟨_, X1 50 _ rfl, rfl⟩ (by decide) (by decide) hx hpl (by decide) hi (by decide) ?hraise ?hret X1 XB
  case hcs => rfl
  case hd => show dp + 1 + 4 < recursionLimit; omega
  case hu => show un + 3 + 20 < cLine; omega
  case hret =>
    intro hl r hr tup t1 t2 h' tk' F3 N3
    k_steps
    exact hret hl r hr _ _ _ _ _ (by assumption) (by assumption)
  case hraise =>
    intro why ctx h1 G e d od news' h' tk' T2 F3 B3 R3 hd1 hd2 BD hwhy
    show wpAny _ _ (leaving _ _) _ _ _
    refine fly_on B3 F3 R3 fun h2 R4 => ?_
    obtain ⟨h₁, T₁, F₁, B₁⟩ := ground_up (name := cn) (scope := cs) (a := a') (cd := ccd) B FG T2
    exact hraise _ _ h₁ _ _ _ _ _ _ _ T₁ F₁ B₁ R4 hd1 hd2 BD hwhy
theorem U_all (w : World) (p : Program) (loose : List PySem.Str) (mean : ExcName → Option Value) (mg mb : PySem.Str → Option Value) (news : List (Addr × Obj)) (x : PySem.Str) (tx : Tok) (sx : Addr) (doc : PySem.Str) (i : Nat) (ti : Tok) (line : Value)
  (dp un : Nat) (gd : Option (List Code)) (cn : PySem.Str) (cs : Scope) (a' : Addr) (ccd : Value) (cl : List (PySem.Str × Addr)) (outer : List Env) (A₀ : Around) (base h₀ : Heap) (L : Addr) (m : PySem.Str → Option Value) (s : Shared) (Q E : Value → Shared → Prop)
    (B : Below A₀ base outer h₀) (F : Fr h₀ L s.heap m) (N : News h₀ L s.heap news) (T : Top p loose mean mg mb h₀) (TB : Top p loose mean mg mb base) (D : KtsDicts (outer.filterMap (·.frame)) h₀) (hcs : cs.kind = .function)
    (hd : dp + 5 < recursionLimit) (hu : un + 23 < cLine) (R : ReaderAt news sx doc) (hx : x.length ≤ 1000) (hpl : Plain x) (hi : i ≤ 1000)
    (hraise : ∀ why ctx h₁ G e d od news' h' tk', KtsTurn (outer.filterMap (·.frame)) h₀ h₁ → Fr h₁ L G m → Below A₀ base outer h₁ → Fly base G (envX cn cs L a' ccd cl :: outer) e (.ref 158) (some d) ctx news' h' →
       (d, od) ∈ news' → (∀ q ∈ news, q ∈ news') → (∃ tw, BadD od (.str doc tw) line x (.int i ti) why) →
       ((x.length < i + 8 ∧ ∃ t, why = .str "unterminated string literal(3)" t) ∨ (i + 8 ≤ x.length ∧ turnOf 85 8 (PySem.Str.ofString "\\" ++ PySem.Str.ofString "U" ++ winOf x i 8).cps 0 = none ∧ ∃ t, why = .str (PySem.Str.ofString "bad string literal hex escape: " ++ winOf x i 8) t)) → E (.ref e) { s with heap := h', toks := tk' })
    (hret : i + 8 ≤ x.length → ∀ r, turnOf 85 8 (PySem.Str.ofString "\\" ++ PySem.Str.ofString "U" ++ winOf x i 8).cps 0 = some r → ∀ tup t1 t2 h' tk', Fr h₀ L h' m → News h₀ L h' ((tup, tupO [.int ((i : Int) + (8 : Nat)) t1, .str ⟨r.toArray⟩ t2]) :: news) → Q (.ref tup) { s with heap := h', toks := tk' }) : (Mine.hd.heap_39 w.params).In h₀ → (Mine.hd.heap_39 w.params).In base →
      wpAny (model PySem.Challenge.rw_ez5014_01.row.prog w) (ktrTop dp un gd cn cs L a' ccd cl outer) (call (.ref 127) [.ref sx, .str x tx, .int (i : Int) ti, line]) Q E s := by
  k_fill
  intro X XB
  refine wpAny_call ?_
  k_dflt cell_enter
  rename Fr h₀ L _ _ => FG
  have DG := dicts_push' (name := cn) (scope := cs) (a := a') (cd := ccd) D FG
  rename Below _ _ (_ :: _) _ => BG
  rename Fr _ _ _ _ => F1
  rename News _ _ _ _ => N1
  rename Top _ _ _ _ _ _ => T1
  rename Frag.In _ _ => X1
  k_steps
  refine' esc_all w p loose mean mg mb news x tx sx doc i 8 ti _ line 55 54 85 8 (PySem.Str.ofString "U") _ (dp + 1) _ _ _ _ _ _ _ _ _ base _ _ _ _ _ _ BG F1 N1 T1 TB DG ?hcs ?hd ?hu R (pat8 w X1) ⟨_, X1 55 _ rfl, rfl⟩ (by decide) (by decide) hx hpl (by decide) hi (by decide) ?hraise ?hret X1 XB
  case hcs => rfl
  case hd => show dp + 1 + 4 < recursionLimit; omega
  case hu => show un + 3 + 20 < cLine; omega
  case hret =>
    intro hl r hr tup t1 t2 h' tk' F3 N3
    k_steps
    exact hret hl r hr _ _ _ _ _ (by assumption) (by assumption)
  case hraise =>
    intro why ctx h1 G e d od news' h' tk' T2 F3 B3 R3 hd1 hd2 BD hwhy
    show wpAny _ _ (leaving _ _) _ _ _
    refine fly_on B3 F3 R3 fun h2 R4 => ?_
    obtain ⟨h₁, T₁, F₁, B₁⟩ := ground_up (name := cn) (scope := cs) (a := a') (cd := ccd) B FG T2
    exact hraise _ _ h₁ _ _ _ _ _ _ _ T₁ F₁ B₁ R4 hd1 hd2 BD hwhy
end Mine
end
section
open PySem PySem.W PyProof.Rows PySem.Calls PySem.Builtin.Str
set_option Elab.async false
set_option maxRecDepth 100000
set_option maxHeartbeats 1000000
namespace Mine
theorem slice_nat (x : PySem.Str) (a b : Nat) : Txt.slice x (some (a : Int)) (some (b : Int)) = ⟨x.cps.extract a b⟩ := by
  have hi : strSliceIndices (some (a : Int)) (some (b : Int)) 1 x.length = (List.range (min b x.length - min a x.length)).map (min a x.length + ·) := by
    unfold strSliceIndices
    simp only [show (1 : Int) > 0 by decide, if_true, if_neg (show ¬ ((a : Int) < 0) by omega), if_neg (show ¬ ((b : Int) < 0) by omega)]
    rw [show max (0 : Int) (min (a : Int) (x.length : Int)) = ((min a x.length : Nat) : Int) by omega, show max (0 : Int) (min (b : Int) (x.length : Int)) = ((min b x.length : Nat) : Int) by omega, sliceRange_one]
  have hl : (x.cps.toList.drop (min a x.length)).take (min b x.length - min a x.length) = (x.cps.extract a b).toList := by
    have hx : x.length = x.cps.toList.length := by rw [Array.length_toList]; rfl
    rw [show (x.cps.extract a b).toList = (x.cps.toList.drop a).take (b - a) by simp, hx, kmk_drop_min]
    by_cases h : a ≤ x.cps.toList.length
    · by_cases h2 : b ≤ x.cps.toList.length
      · rw [Nat.min_eq_left h2, Nat.min_eq_left h]
      · rw [Nat.min_eq_right (by omega), Nat.min_eq_left h, List.take_of_length_le (by rw [List.length_drop]; omega), List.take_of_length_le (by rw [List.length_drop]; omega)]
    · rw [List.drop_of_length_le (by omega), List.take_nil, List.take_nil]
  unfold Txt.slice
  rw [hi, pick_run]
  split
  · rename_i hc
    simp only [beq_self_eq_true, Bool.true_and, List.length_map, List.length_range, beq_iff_eq] at hc
    apply PySem.Str.ext'
    apply Array.toList_inj.mp
    rw [← hl]
    have hx : x.length = x.cps.toList.length := by rw [Array.length_toList]; rfl
    by_cases h0 : x.length = 0
    · have : x.cps.toList = [] := List.eq_nil_of_length_eq_zero (by omega)
      rw [this]; simp
    · rw [show min a x.length = 0 by omega, show min b x.length - 0 = x.length by omega, List.drop_zero, hx, List.take_length]
  · rw [hl]
theorem item_nat {x : PySem.Str} {a : Nat} (h : a < x.length) : Txt.item x (a : Int) = ⟨#[x.cps.getD a 0]⟩ := by
  have e : seqIndex? (a : Int) x.length = some a := by
    unfold seqIndex?
    simp only [if_neg (show ¬ ((a : Int) < 0) by omega)]
    rw [if_pos (by simp; omega)]
    simp
  unfold Txt.item Txt.charAt
  rw [e]
  simp [Array.getD_eq_getD_getElem?]
theorem hexRun_of {T : Array Nat} : ∀ (n p : Nat), (∀ i, i < n → 0 ≤ hexPlace (T.getD (p + i) 0)) → hexRun T n p = n
  | 0, _, _ => rfl
  | n + 1, p, h => by
    unfold hexRun
    have h0 := h 0 (by omega)
    rw [Nat.add_zero] at h0
    rw [if_pos (show isHexB (T.getD p 0) = true from decide_eq_true h0), hexRun_of n (p + 1) fun i hi => ?_]
    have := h (i + 1) (by omega)
    rwa [show p + (i + 1) = p + 1 + i by omega] at this
theorem lawVal_hex : ∀ (l : List Nat) (v : Int), 0 ≤ lawVal v l → AllHex l
  | [], _, _ => fun _ h => nomatch h
  | c :: r, v, h => by
    rw [lawVal] at h
    split at h
    · omega
    · intro d hd
      rcases List.mem_cons.mp hd with rfl | hd
      · omega
      · exact lawVal_hex r _ h d hd
theorem two_signs {T : Array Nat} {a u : Nat} (h : (⟨T.extract a (a + 2)⟩ : PySem.Str) = PySem.Str.ofString "\\" ++ ⟨#[u]⟩) : T.getD a 0 = 92 ∧ T.getD (a + 1) 0 = u ∧ a + 2 ≤ T.size := by
  have e : (T.extract a (a + 2)).toList = [92, u] := by
    have := congrArg (fun y : PySem.Str => y.cps.toList) h
    exact this
  have hl : (T.extract a (a + 2)).size = 2 := by rw [← Array.length_toList, e]; rfl
  rw [Array.size_extract] at hl
  have g : ∀ i, i < 2 → T.getD (a + i) 0 = ([92, u] : List Nat).getD i 0 := by
    intro i hi
    rw [← e, List.getD_eq_getElem?_getD, Array.getElem?_toList, Array.getElem?_extract, if_pos (by omega), Array.getD_eq_getD_getElem?]
  exact ⟨g 0 (by omega), g 1 (by omega), by omega⟩
theorem esc_of {x : PySem.Str} {u k a : Nat} (h1 : (⟨x.cps.extract a (a + 2)⟩ : PySem.Str) = PySem.Str.ofString "\\" ++ ⟨#[u]⟩) (h2 : (⟨x.cps.extract (a + 2) (a + 2 + k)⟩ : PySem.Str).length = k) (h3 : 0 ≤ lawVal 0 (figs k x.cps a)) : EscAt u k x.cps a := by
  obtain ⟨a1, a2, a3⟩ := two_signs h1
  have a4 : (x.cps.extract (a + 2) (a + 2 + k)).size = k := h2
  rw [Array.size_extract] at a4
  have a5 := lawVal_hex _ _ h3
  refine ⟨by omega, a1, a2, hexRun_of k (a + 2) fun i hi => a5 _ ?_⟩
  unfold figs
  have : (x.cps.extract (a + 2) (a + 2 + k)).toList[i]? = some (x.cps.getD (a + 2 + i) 0) := by
    rw [Array.getElem?_toList, Array.getElem?_extract, if_pos (by omega), Array.getD_eq_getD_getElem?]
    have : a + 2 + i < x.cps.size := by omega
    simp [this]
  exact List.mem_of_getElem? this
theorem of_esc {x : PySem.Str} {u k a : Nat} (h : EscAt u k x.cps a) : (⟨x.cps.extract a (a + 2)⟩ : PySem.Str) = PySem.Str.ofString "\\" ++ ⟨#[u]⟩ ∧ (⟨x.cps.extract (a + 2) (a + 2 + k)⟩ : PySem.Str).length = k ∧ 0 ≤ lawVal 0 (figs k x.cps a) := by
  have h1 := h.1
  refine ⟨?_, ?_, lawVal_ge _ _ (by decide) (figs_hex h)⟩
  · apply PySem.Str.ext'
    apply Array.toList_inj.mp
    show (x.cps.extract a (a + 2)).toList = [92, u]
    rw [extract_cons (by omega) (by omega), extract_cons (by omega) (by omega), h.2.1, h.2.2.1]
    simp
  · show (x.cps.extract (a + 2) (a + 2 + k)).size = k
    rw [Array.size_extract]
    omega
end Mine
end
section
local macro_rules | `(tactic| walk_at "no such word") => `(tactic| fail)
local macro_rules | `(tactic| walk_at "no such word") => `(tactic| fail)
local macro_rules | `(tactic| walk_at "no such word") => `(tactic| fail)
theorem Mine.fresh_T1 : True := by
  w_top off
  k_with_none
  trivial
open PySem PySem.W PyProof.Rows PySem.Calls
set_option Elab.async false
set_option maxRecDepth 100000
set_option maxHeartbeats 2000000
namespace Mine
theorem loop_told {prog : Program} {w : World} {A : Around} {E : Value → Shared → Prop} {env : Env} {test : PySem.Expr} {body orelse : List Stmt} {Q : Flow → Shared → Prop} {s : Shared} {g : Heap} {L : Addr} {news : List (Addr × Obj)} {t1 t2 : Tok} (bm : PySem.Str → Option Value) (I : Nat → PySem.Str → Prop) (top : Nat)
    (F : Fr g L s.heap (fun y => if y = "at" then some (.int 0 t1) else if y = "told" then some (.str (PySem.Str.ofString "") t2) else bm y)) (N : News g L s.heap news) (hv : bm "value" = none) (hf : bm "figures" = none) (h0 : I 0 (PySem.Str.ofString "")) (htop : ∀ a told, I a told → a ≤ top)
    (turn : ∀ a told t1 t2 u1 u2 h tk, I a told → Fr g L h (fun y => if y = "at" then some (.int (a : Int) t1) else if y = "told" then some (.str told t2) else if y = "value" then u1 else if y = "figures" then u2 else bm y) → News g L h news →
      (∀ a' told' m' h' tk', a < a' → I a' told' → Fr g L h' m' → News g L h' news → (∃ t, m' "at" = some (.int (a' : Int) t)) → (∃ t, m' "told" = some (.str told' t)) → (∀ y : PySem.Str, y ≠ "at" → y ≠ "told" → y ≠ "value" → y ≠ "figures" → m' y = bm y) →
        WhlRest prog w A E env test body orelse Q 0 { s with heap := h', toks := tk' }) →
      WhlRest prog w A E env test body orelse Q 1 { s with heap := h, toks := tk }) : WhlRest prog w A E env test body orelse Q 1 s := by
  have key : ∀ n a told t1 t2 u1 u2 h tk, top - a = n → I a told → Fr g L h (fun y => if y = "at" then some (.int (a : Int) t1) else if y = "told" then some (.str told t2) else if y = "value" then u1 else if y = "figures" then u2 else bm y) → News g L h news →
      WhlRest prog w A E env test body orelse Q 1 { s with heap := h, toks := tk } := by
    intro n
    induction n using Nat.strongRecOn with
    | ind n ih =>
      intro a told t1 t2 u1 u2 h tk hn hI F1 N1
      refine turn a told t1 t2 u1 u2 h tk hI F1 N1 fun a' told' m' h' tk' ha hI' F2 N2 h1 h2 h3 => ?_
      obtain ⟨t1', h1⟩ := h1
      obtain ⟨t2', h2⟩ := h2
      have := htop _ _ hI'
      refine ih (top - a') (by omega) a' told' t1' t2' (m' "value") (m' "figures") h' tk' rfl hI' ?_ N2
      have e : m' = (fun (y : PySem.Str) => if y = "at" then some (.int (a' : Int) t1') else if y = "told" then some (.str told' t2') else if y = "value" then m' "value" else if y = "figures" then m' "figures" else bm y) := by
        funext y
        split
        · rename_i q; rw [q, h1]
        split
        · rename_i q; rw [q, h2]
        split
        · rename_i q; rw [q]
        split
        · rename_i q; rw [q]
        · rename_i q1 q2 q3 q4
          exact h3 y q1 q2 q3 q4
      rw [← e]
      exact F2
  refine key _ 0 (PySem.Str.ofString "") t1 t2 none none s.heap s.toks rfl h0 ?_ N
  have e : (fun (y : PySem.Str) => if y = "at" then some (Value.int 0 t1) else if y = "told" then some (.str (PySem.Str.ofString "") t2) else bm y) = (fun (y : PySem.Str) => if y = "at" then some (.int ((0 : Nat) : Int) t1) else if y = "told" then some (.str (PySem.Str.ofString "") t2) else if y = "value" then none else if y = "figures" then none else bm y) := by
    funext y
    split
    · rfl
    split
    · rfl
    split
    · rename_i q; rw [q, hv]
    split
    · rename_i q; rw [q, hf]
    · rfl
  rw [← e]
  exact F
/-- how far the law's own turn has come -/
def TInv (u k : Nat) (x : PySem.Str) (a : Nat) (told : PySem.Str) : Prop := a ≤ x.length ∧ told.length ≤ a ∧ turnOf u k x.cps 0 = (turnOf u k x.cps a).map (told.cps.toList ++ ·)
section
variable {u k a : Nat} {x told : PySem.Str}
theorem t_start : TInv u k x 0 (PySem.Str.ofString "") := ⟨Nat.zero_le _, Nat.le_refl _, by
  cases turnOf u k x.cps 0 with
  | none => rfl
  | some r => rfl⟩
theorem t_end (h : TInv u k x a told) (h1 : ¬ a < x.length) : turnOf u k x.cps 0 = some told.cps.toList := by
  rw [h.2.2, turnOf_end (by show x.cps.size ≤ a; have : ¬ a < x.cps.size := h1; omega)]
  simp
theorem t_none (h : TInv u k x a told) (h1 : EscAt u k x.cps a) (h2 : 1114111 < lawVal 0 (figs k x.cps a)) : turnOf u k x.cps 0 = none := by
  rw [h.2.2, turnOf_esc h1, if_pos h2]
  rfl
theorem len_one (told : PySem.Str) (c : Nat) : (told ++ (⟨#[c]⟩ : PySem.Str)).length = told.length + 1 := by
  rw [PySem.Str.length_append]
  rfl
theorem t_esc (h : TInv u k x a told) (h1 : EscAt u k x.cps a) (h2 : ¬ 1114111 < lawVal 0 (figs k x.cps a)) : TInv u k x (a + 2 + k) (told ++ ⟨#[(lawVal 0 (figs k x.cps a)).toNat]⟩) := by
  obtain ⟨i1, i2, i3⟩ := h
  have := h1.1
  refine ⟨this, by rw [len_one]; omega, ?_⟩
  rw [i3, turnOf_esc h1, if_neg h2, Option.map_map]
  congr 1
  funext r
  simp [PySem.Str.cps_append]
theorem t_plain (h : TInv u k x a told) (h0 : a < x.length) (h1 : ¬ EscAt u k x.cps a) : TInv u k x (a + 1) (told ++ ⟨#[x.cps.getD a 0]⟩) := by
  obtain ⟨i1, i2, i3⟩ := h
  refine ⟨h0, by rw [len_one]; omega, ?_⟩
  rw [i3, turnOf_plain h0 h1, Option.map_map]
  congr 1
  funext r
  simp [PySem.Str.cps_append]
end
section
variable {x letter told : PySem.Str} {u k a : Nat} {v : Int}
theorem cut2 (x : PySem.Str) (a : Nat) : Txt.slice x (some (a : Int)) (some ((a : Int) + 2)) = ⟨x.cps.extract a (a + 2)⟩ := slice_nat x a (a + 2)
theorem cut3 (x : PySem.Str) (a k : Nat) : Txt.slice x (some ((a : Int) + 2)) (some ((a : Int) + 2 + (k : Int))) = ⟨x.cps.extract (a + 2) (a + 2 + k)⟩ := slice_nat x (a + 2) (a + 2 + k)
theorem cut_figs : (Txt.slice x (some ((a : Int) + 2)) (some ((a : Int) + 2 + (k : Int)))).cps.toList = figs k x.cps a := by rw [cut3]; rfl
theorem esc_from (hl : letter = ⟨#[u]⟩) (h1 : (Txt.slice x (some (a : Int)) (some ((a : Int) + 2)) == PySem.Str.ofString "\\" ++ letter) = true) (h2 : ((Txt.slice x (some ((a : Int) + 2)) (some ((a : Int) + 2 + (k : Int)))).length : Int) = (k : Int))
    (h3 : 0 ≤ lawVal 0 (Txt.slice x (some ((a : Int) + 2)) (some ((a : Int) + 2 + (k : Int)))).cps.toList) : EscAt u k x.cps a := by
  subst hl
  rw [cut_figs] at h3
  rw [cut3] at h2
  rw [cut2, beq_iff_eq] at h1
  exact esc_of h1 (by omega) h3
theorem not_esc1 (hl : letter = ⟨#[u]⟩) (h1 : (Txt.slice x (some (a : Int)) (some ((a : Int) + 2)) == PySem.Str.ofString "\\" ++ letter) = false) : ¬ EscAt u k x.cps a := fun h => by
  subst hl
  rw [cut2, (of_esc h).1, beq_self_eq_true] at h1
  cases h1
theorem not_esc2 (h2 : ¬ ((Txt.slice x (some ((a : Int) + 2)) (some ((a : Int) + 2 + (k : Int)))).length : Int) = (k : Int)) : ¬ EscAt u k x.cps a := fun h => by
  rw [cut3] at h2
  exact h2 (by rw [(of_esc h).2.1])
theorem not_esc3 (h3 : ¬ 0 ≤ lawVal 0 (Txt.slice x (some ((a : Int) + 2)) (some ((a : Int) + 2 + (k : Int)))).cps.toList) : ¬ EscAt u k x.cps a := fun h => by
  rw [cut_figs] at h3
  exact h3 (of_esc h).2.2
theorem t_none' (h : TInv u k x a told) (h1 : EscAt u k x.cps a) (h2 : 1114111 < lawVal 0 (Txt.slice x (some ((a : Int) + 2)) (some ((a : Int) + 2 + (k : Int)))).cps.toList) : turnOf u k x.cps 0 = none := by
  rw [cut_figs] at h2
  exact t_none h h1 h2
theorem t_esc' (h : TInv u k x a told) (h1 : EscAt u k x.cps a) (h2 : ¬ 1114111 < lawVal 0 (Txt.slice x (some ((a : Int) + 2)) (some ((a : Int) + 2 + (k : Int)))).cps.toList) :
    TInv u k x (a + 2 + k) (told ++ ⟨#[(lawVal 0 (Txt.slice x (some ((a : Int) + 2)) (some ((a : Int) + 2 + (k : Int)))).cps.toList).toNat]⟩) := by
  rw [cut_figs] at h2 ⊢
  exact t_esc h h1 h2
theorem t_plain' (h : TInv u k x a told) (h0 : (a : Int) < (x.length : Int)) (h1 : ¬ EscAt u k x.cps a) : TInv u k x (a + 1) (told ++ Txt.item x (a : Int)) := by
  rw [item_nat (by omega)]
  exact t_plain h (by omega) h1
end
theorem at_is {i j : Int} {t : Tok} {r : Option Value} (e : i = j) : ∃ t', (if PySem.Str.ofString "at" = PySem.Str.ofString "at" then some (Value.int i t) else r) = some (.int j t') := ⟨t, by rw [if_pos rfl, e]⟩
theorem whl_if {b : Bool} {T F : Prop} (h1 : b = true → T) (h2 : b = false → F) : WhlIf b T F := by
  cases b with
  | true => exact WhlIf.yes rfl (h1 rfl)
  | false => exact WhlIf.no rfl (h2 rfl)
theorem Fr.as {h₀ h : Heap} {L : Addr} {m m' : PySem.Str → Option Value} (F : Fr h₀ L h m) (e : ∀ y, m y = m' y) : Fr h₀ L h m' := by
  rw [show m' = m from (funext e).symm]
  exact F
theorem value_call (w : World) {p : Program} {loose : List PySem.Str} {mean : ExcName → Option Value} {mg mb : PySem.Str → Option Value} {news : List (Addr × Obj)} {x : PySem.Str} {t : Tok}
  {dp un : Nat} {gd : Option (List Code)} {cn : PySem.Str} {cs : Scope} {a : Addr} {ccd : Value} {cl : List (PySem.Str × Addr)} {outer : List Env} {A₀ : Around} {base h₀ : Heap} {L : Addr} {m : PySem.Str → Option Value} {s : Shared} {Q E : Value → Shared → Prop}
  (B : Below A₀ base outer h₀) (F : Fr h₀ L s.heap m) (X : (Mine.hd.heap_39 w.params).In h₀) (N : News h₀ L s.heap news) (T : Top p loose mean mg mb h₀) (hk : cs.kind = .function) (hx : x.length ≤ 1000) (hd : dp + 1 < recursionLimit) (hu : un + 8 < cLine)
  (h : ∀ t h' tk', Fr h₀ L h' m → News h₀ L h' news → Q (.int (lawVal 0 x.cps.toList) t) { s with heap := h', toks := tk' }) :
  wpAny (model PySem.Challenge.rw_ez5014_01.row.prog w) (ktrTop dp un gd cn cs L a ccd cl outer) (call (.ref 196) [.str x t]) Q E s :=
  law_value_ok w p loose mean mg mb news x t dp un gd cn cs a ccd cl outer A₀ base h₀ L m s Q E B F X N T hk hx hd hu h
local macro_rules | `(tactic| walk_at "WhlIf") => `(tactic| ((refine whl_if ?_ ?_) <;> (intro hb'; simp only [decide_eq_true_eq, decide_eq_false_iff_not] at hb')))
local macro_rules | `(tactic| walk_at "subscriptTail") => `(tactic| (k_here; (with_reducible rename Fr _ _ _ _ => F'); (with_reducible rename News _ _ _ _ => N'); (refine slice_strN_ss_len (hsz := ?hsz) (s := ⟨_, _, _, _, _⟩) F' N' ?_); (case hsz => (rw [PySem.sizeLine_eq]; omega)); intro h' t' k' F' N' hl'))
local macro_rules | `(tactic| walk_at "subscriptTail") => `(tactic| (k_here; (with_reducible show wpAny _ _ (subscriptTail _ _ (Value.str _ _) (Value.int _ _)) _ _ _); (refine item_str (fitsSsize_of (N := 9223372036854775808) (by omega) (by omega) (Int.le_refl _)) (by omega) (by omega) ?_); intro hl'))
local macro_rules | `(tactic| walk_at "binaryOp Add str str") => `(tactic| (k_here; (refine KOpn.add (by simp only [PySem.Str.length_append] at *; (try kopn_lits); omega) ?_); intro t' k' hl'))
local macro_rules | `(tactic| walk_at "call ref") => `(tactic| (k_here; (with_reducible show wpAny _ _ (call (Value.ref 196) _) _ _ _); (refine' value_call _ ?kB ?kF ?kX ?kN ?kT ?kk ?kx ?kd ?ku ?_; (case kB => assumption); (case kF => assumption); (case kX => assumption); (case kN => assumption); (case kT => assumption); (case kk => rfl); (case kx => omega); (case kd => first | omega | (dsimp; omega)); (case ku => first | omega | (dsimp; omega))); intro t' h' tk' F' N'))
local macro_rules | `(tactic| walk_at "WhlRest") => `(tactic| (k_here; refine stop_at ?_))
theorem law_turn_ok (w : World) (p : Program) (loose : List PySem.Str) (mean : ExcName → Option Value) (mg mb : PySem.Str → Option Value) (news : List (Addr × Obj)) (x letter : PySem.Str) (tx tl tk : Tok) (k u : Nat)
  (dp un : Nat) (gd : Option (List Code)) (cn : PySem.Str) (cs : Scope) (a' : Addr) (ccd : Value) (cl : List (PySem.Str × Addr)) (outer : List Env) (A₀ : Around) (base h₀ : Heap) (L : Addr) (m : PySem.Str → Option Value) (s : Shared) (Q E : Value → Shared → Prop)
    (B : Below A₀ base outer h₀) (F : Fr h₀ L s.heap m) (N : News h₀ L s.heap news) (T : Top p loose mean mg mb h₀) (hcs : cs.kind = .function)
    (hd : dp + 3 < recursionLimit) (hu : un + 20 < cLine) (hx : x.length ≤ 500) (hk : 0 < k) (hk8 : k ≤ 8) (hl : letter = ⟨#[u]⟩)
    (hnone : turnOf u k x.cps 0 = none → ∀ h' tk', Fr h₀ L h' m → News h₀ L h' news → Q .none { s with heap := h', toks := tk' })
    (hret : ∀ r, turnOf u k x.cps 0 = some r → ∀ t h' tk', Fr h₀ L h' m → News h₀ L h' news → Q (.str ⟨r.toArray⟩ t) { s with heap := h', toks := tk' }) : (Mine.hd.heap_39 w.params).In h₀ →
      wpAny (model PySem.Challenge.rw_ez5014_01.row.prog w) (ktrTop dp un gd cn cs L a' ccd cl outer) (call (.ref 203) [.str x tx, .str letter tl, .int (k : Int) tk]) Q E s := by
  k_fill
  intro X
  refine wpAny_call ?_
  k_dflt cell_enter
  rename Below _ _ (_ :: _) _ => BG
  rename Top _ _ _ _ _ _ => T1
  rename Frag.In _ _ => X1
  k_with "exec While Compare cons nil" => (refine stop_at ?_)
  k_steps
  unfold Stop
  refine whl_start 1 ?_
  rename Fr _ _ _ _ => F1
  rename News _ _ _ _ => N1
  rename Fr h₀ L _ _ => FG
  refine loop_told _ (TInv u k x) x.length F1 N1 ?hv ?hf t_start (fun a told h => h.1) ?turn
  case hv => rfl
  case hf => rfl
  intro a told t1 t2 u1 u2 h tk' hI F2 N2 IH
  have hI1 := hI.1
  have hI2 := hI.2.1
  have hll : letter.length = 1 := by rw [hl]; rfl
  clear F1 N1
  refine whl_turn (k := 0) (by passes_own) ?_
  k_steps
  · exact hnone (t_none' hI (esc_from hl (by assumption) (by assumption) (by omega)) (by assumption)) _ _ (by assumption) (by assumption)
  all_goals try unfold Stop
  · refine' IH (a + 2 + k) _ _ _ _ ?lt (t_esc' hI (esc_from hl (by assumption) (by assumption) (by assumption)) (by assumption)) ?F ?N ?hat ?htold ?rest
    case F => assumption
    case N => assumption
    case lt => omega
    case hat => exact at_is (by omega)
    case htold => exact ⟨_, rfl⟩
    case rest =>
      intro y q1 q2 q3 q4
      simp only [q1, q2, q3, q4, if_false]
  · refine' IH (a + 1) _ _ _ _ ?lt (t_plain' hI (by omega) (not_esc3 (by assumption))) ?F ?N ?hat ?htold ?rest
    case F => assumption
    case N => assumption
    case lt => omega
    case hat => exact at_is (by omega)
    case htold => exact ⟨_, rfl⟩
    case rest =>
      intro y q1 q2 q3 q4
      simp only [q1, q2, q3, q4, if_false]
  · refine' IH (a + 1) _ _ _ _ ?lt (t_plain' hI (by omega) (not_esc2 (by assumption))) ?F ?N ?hat ?htold ?rest
    case F => assumption
    case N => assumption
    case lt => omega
    case hat => exact at_is (by omega)
    case htold => exact ⟨_, rfl⟩
    case rest =>
      intro y q1 q2 q3 q4
      simp only [q1, q2, q3, q4, if_false]
  · refine' IH (a + 1) _ _ _ _ ?lt (t_plain' hI (by omega) (not_esc1 hl (by assumption))) ?F ?N ?hat ?htold ?rest
    case F => assumption
    case N => assumption
    case lt => omega
    case hat => exact at_is (by omega)
    case htold => exact ⟨_, rfl⟩
    case rest =>
      intro y q1 q2 q3 q4
      simp only [q1, q2, q3, q4, if_false]
  · have e := t_end hI (by omega)
    have et : told = ({ cps := told.cps.toList.toArray } : PySem.Str) := by rw [Array.toArray_toList]
    rw [et]
    exact hret _ e _ _ _ (by assumption) (by assumption)
end Mine
end
section
open PySem PySem.W PyProof.Rows PySem.Calls
set_option Elab.async false
set_option maxRecDepth 100000
set_option maxHeartbeats 2000000
namespace Mine
/-- what a round is owed, and gets -/
def OutIs (x : PySem.Str) (doc : PySem.Str) (line : Int) (i n : Nat) (u k : Nat) (pre : PySem.Str) (vs : List Value) : Prop :=
  (x.length < i + n ∧ ∃ t1 t2 t3 t4 t5 t6, vs = [.str "refused" t1, .str doc t2, .int line t3, .int (i : Int) t4, .str "unterminated string literal(3)" t5, .bytes (encB x) t6]) ∨
  (i + n ≤ x.length ∧ turnOf u k (PySem.Str.ofString "\\" ++ pre ++ winOf x i n).cps 0 = none ∧ ∃ t1 t2 t3 t4 t5 t6, vs = [.str "refused" t1, .str doc t2, .int line t3, .int (i : Int) t4, .str (PySem.Str.ofString "bad string literal hex escape: " ++ winOf x i n) t5, .bytes (encB x) t6]) ∨
  (i + n ≤ x.length ∧ ∃ r, turnOf u k (PySem.Str.ofString "\\" ++ pre ++ winOf x i n).cps 0 = some r ∧ ∃ t1 t2, vs = [.int ((i : Int) + (n : Int)) t1, .str ⟨r.toArray⟩ t2])
end Mine
end
section
open PySem PySem.W PyProof.Rows PySem.Calls
set_option Elab.async false
set_option maxRecDepth 100000
set_option maxHeartbeats 2000000
namespace Mine
/-- a fact kept out of the way of every search by sight -/
structure Kept (P : Prop) : Prop where
  get : P
theorem turn_call (w : World) {p : Program} {loose : List PySem.Str} {mean : ExcName → Option Value} {mg mb : PySem.Str → Option Value} {news : List (Addr × Obj)} {x : PySem.Str} {t tl tk : Tok} {l : PySem.Str} {ki : Int}
  {dp un : Nat} {gd : Option (List Code)} {cn : PySem.Str} {cs : Scope} {a : Addr} {ccd : Value} {cl : List (PySem.Str × Addr)} {outer : List Env} {A₀ : Around} {base h₀ : Heap} {L : Addr} {m : PySem.Str → Option Value} {s : Shared} {Q E : Value → Shared → Prop}
  (u k : Nat) (B : Below A₀ base outer h₀) (F : Fr h₀ L s.heap m) (X : (Mine.hd.heap_39 w.params).In h₀) (N : News h₀ L s.heap news) (T : Top p loose mean mg mb h₀) (hk : cs.kind = .function) (hx : x.length ≤ 500) (hd : dp + 3 < recursionLimit) (hu : un + 20 < cLine) (hl : l = ⟨#[u]⟩) (hki : ki = (k : Int)) (hk0 : 0 < k) (hk8 : k ≤ 8)
  (hnone : turnOf u k x.cps 0 = none → ∀ h' tk', Fr h₀ L h' m → News h₀ L h' news → Q .none { s with heap := h', toks := tk' })
  (h : ∀ r, turnOf u k x.cps 0 = some r → ∀ t h' tk', Fr h₀ L h' m → News h₀ L h' news → Q (.str ⟨r.toArray⟩ t) { s with heap := h', toks := tk' }) :
  wpAny (model PySem.Challenge.rw_ez5014_01.row.prog w) (ktrTop dp un gd cn cs L a ccd cl outer) (call (.ref 203) [.str x t, .str l tl, .int ki tk]) Q E s := by
  subst hki
  exact law_turn_ok w p loose mean mg mb news x l t tl tk k u dp un gd cn cs a ccd cl outer A₀ base h₀ L m s Q E B F N T hk hd hu hx hk0 hk8 hl hnone h X
end Mine
end
section
theorem Mine.fresh_D30 : True := by
  w_top off
  k_with_none
  trivial
open PySem PySem.W PyProof.Rows PySem.Calls
set_option Elab.async false
set_option maxRecDepth 100000
set_option maxHeartbeats 2000000
namespace Mine
local macro_rules | `(tactic| walk_at "getMethod str") => `(tactic| (k_here; (with_reducible show wpAny _ _ (getMethod (Value.str _ _) (Str.ofString "encode") _) _ _ _); (refine getMethod_builtin (typeIs_str _ _ _) PySem.F.plainAttrs_str slot_encode type_encode (fun a e => nomatch e) ?_)))
local macro_rules | `(tactic| walk_at "call builtin:str.encode") => `(tactic| (k_here; (refine call_encode (by assumption) (by omega) ?_); intro t' k'))
local macro_rules | `(tactic| walk_at "subscriptTail") => `(tactic| (k_here; (with_reducible rename Fr _ _ _ _ => F'); (with_reducible rename News _ _ _ _ => N'); (refine slice_strN_ss_len (hsz := ?hsz) (s := ⟨_, _, _, _, _⟩) F' N' ?_); (case hsz => (rw [PySem.sizeLine_eq]; omega)); intro h' t' k' F' N' hl'))
local macro_rules | `(tactic| walk_at "binaryOp Add str str") => `(tactic| (k_here; (refine KOpn.add (by simp only [PySem.Str.length_append] at *; (try kopn_lits); omega) ?_); intro t' k' hl'))
local macro_rules | `(tactic| walk_at "call ref") => `(tactic| (k_here; (with_reducible show wpAny _ _ (call (Value.ref 203) _) _ _ _); refine stop_at ?_))
theorem due_0 (w : World) (p : Program) (loose : List PySem.Str) (mean : ExcName → Option Value) (mg mb : PySem.Str → Option Value) (news : List (Addr × Obj)) (x doc pre : PySem.Str) (tx td tp ti tn to tli : Tok) (line : Int) (i n : Nat)
  (dp un : Nat) (gd : Option (List Code)) (cn : PySem.Str) (cs : Scope) (a' : Addr) (ccd : Value) (cl : List (PySem.Str × Addr)) (outer : List Env) (A₀ : Around) (base h₀ : Heap) (L : Addr) (m : PySem.Str → Option Value) (s : Shared) (Q E : Value → Shared → Prop)
    (B : Below A₀ base outer h₀) (F : Fr h₀ L s.heap m) (N : News h₀ L s.heap news) (T : Top p loose mean mg mb h₀) (hcs : cs.kind = .function)
    (hd : dp + 5 < recursionLimit) (hu : un + 30 < cLine) (hx : x.length ≤ 400) (hpl : Plain x) (hpre : pre.length ≤ 4)
    (hret : ∀ l vs h' tk', OutIs x doc line i n 117 4 pre vs → Fr h₀ L h' m → News h₀ L h' ((l, listOf vs.toArray 0) :: news) → Q (.ref l) { s with heap := h', toks := tk' }) : (Mine.hd.heap_39 w.params).In h₀ →
      wpAny (model PySem.Challenge.rw_ez5014_01.row.prog w) (ktrTop dp un gd cn cs L a' ccd cl outer) (call (.ref 217) [.str doc td, .int line tli, .str x tx, .int (i : Int) ti, .int (n : Int) tn, .str pre tp, .int 0 to]) Q E s := by
  k_fill
  intro X
  refine wpAny_call ?_
  k_dflt cell_enter
  rename Below _ _ (_ :: _) _ => BG
  rename Top _ _ _ _ _ _ => T1
  rename Frag.In _ _ => X1
  k_steps
  · refine' hret _ _ _ _ ?o ?F ?N
    case N => assumption
    case F => assumption
    case o => exact .inl ⟨by omega, _, _, _, _, _, _, rfl⟩
  unfold Stop
  rename Fr _ _ _ _ => F2
  rename News _ _ _ _ => N2
  refine' turn_call w 117 4 BG F2 X1 N2 T1 ?hk ?hx ?hd ?hu rfl rfl (by decide) (by decide) ?hnone ?hsome
  case hk => rfl
  case hx =>
    have e1 : (PySem.Str.ofString "\\").length = 1 := rfl
    have e2 := PyProof.Txt.length_slice_le x (some (i : Int)) (some ((i : Int) + (n : Int)))
    rw [PySem.Str.length_append, PySem.Str.length_append, e1]
    clear B N T BG T1 X1 F2 N2
    omega
  case hd => show dp + 1 + 3 < recursionLimit; omega
  case hu => show un + 3 + 20 < cLine; omega
  case hnone =>
    intro hr h' tk' F3 N3
    replace hr := Kept.mk hr
    k_steps
    refine' hret _ _ _ _ ?o ?F ?N
    case N => assumption
    case F => assumption
    case o => exact .inr (.inl ⟨by omega, hr.get, _, _, _, _, _, _, rfl⟩)
  case hsome =>
    intro r hr t h' tk' F3 N3
    replace hr := Kept.mk hr
    k_steps
    refine' hret _ _ _ _ ?o ?F ?N
    case N => assumption
    case F => assumption
    case o => exact .inr (.inr ⟨by omega, r, hr.get, _, _, rfl⟩)
end Mine
end
section
local macro_rules | `(tactic| walk_at "no such word") => `(tactic| fail)
theorem Mine.fresh_D31 : True := by
  w_top off
  k_with_none
  trivial
open PySem PySem.W PyProof.Rows PySem.Calls
set_option Elab.async false
set_option maxRecDepth 100000
set_option maxHeartbeats 2000000
namespace Mine
local macro_rules | `(tactic| walk_at "getMethod str") => `(tactic| (k_here; (with_reducible show wpAny _ _ (getMethod (Value.str _ _) (Str.ofString "encode") _) _ _ _); (refine getMethod_builtin (typeIs_str _ _ _) PySem.F.plainAttrs_str slot_encode type_encode (fun a e => nomatch e) ?_)))
local macro_rules | `(tactic| walk_at "call builtin:str.encode") => `(tactic| (k_here; (refine call_encode (by assumption) (by omega) ?_); intro t' k'))
local macro_rules | `(tactic| walk_at "subscriptTail") => `(tactic| (k_here; (with_reducible rename Fr _ _ _ _ => F'); (with_reducible rename News _ _ _ _ => N'); (refine slice_strN_ss_len (hsz := ?hsz) (s := ⟨_, _, _, _, _⟩) F' N' ?_); (case hsz => (rw [PySem.sizeLine_eq]; omega)); intro h' t' k' F' N' hl'))
local macro_rules | `(tactic| walk_at "binaryOp Add str str") => `(tactic| (k_here; (refine KOpn.add (by simp only [PySem.Str.length_append] at *; (try kopn_lits); omega) ?_); intro t' k' hl'))
local macro_rules | `(tactic| walk_at "call ref") => `(tactic| (k_here; (with_reducible show wpAny _ _ (call (Value.ref 203) _) _ _ _); refine stop_at ?_))
theorem due_1 (w : World) (p : Program) (loose : List PySem.Str) (mean : ExcName → Option Value) (mg mb : PySem.Str → Option Value) (news : List (Addr × Obj)) (x doc pre : PySem.Str) (tx td tp ti tn to tli : Tok) (line : Int) (i n : Nat)
  (dp un : Nat) (gd : Option (List Code)) (cn : PySem.Str) (cs : Scope) (a' : Addr) (ccd : Value) (cl : List (PySem.Str × Addr)) (outer : List Env) (A₀ : Around) (base h₀ : Heap) (L : Addr) (m : PySem.Str → Option Value) (s : Shared) (Q E : Value → Shared → Prop)
    (B : Below A₀ base outer h₀) (F : Fr h₀ L s.heap m) (N : News h₀ L s.heap news) (T : Top p loose mean mg mb h₀) (hcs : cs.kind = .function)
    (hd : dp + 5 < recursionLimit) (hu : un + 30 < cLine) (hx : x.length ≤ 400) (hpl : Plain x) (hpre : pre.length ≤ 4)
    (hret : ∀ l vs h' tk', OutIs x doc line i n 85 8 pre vs → Fr h₀ L h' m → News h₀ L h' ((l, listOf vs.toArray 0) :: news) → Q (.ref l) { s with heap := h', toks := tk' }) : (Mine.hd.heap_39 w.params).In h₀ →
      wpAny (model PySem.Challenge.rw_ez5014_01.row.prog w) (ktrTop dp un gd cn cs L a' ccd cl outer) (call (.ref 217) [.str doc td, .int line tli, .str x tx, .int (i : Int) ti, .int (n : Int) tn, .str pre tp, .int 1 to]) Q E s := by
  k_fill
  intro X
  refine wpAny_call ?_
  k_dflt cell_enter
  rename Below _ _ (_ :: _) _ => BG
  rename Top _ _ _ _ _ _ => T1
  rename Frag.In _ _ => X1
  k_steps
  · refine' hret _ _ _ _ ?o ?F ?N
    case N => assumption
    case F => assumption
    case o => exact .inl ⟨by omega, _, _, _, _, _, _, rfl⟩
  unfold Stop
  rename Fr _ _ _ _ => F2
  rename News _ _ _ _ => N2
  refine' turn_call w 85 8 BG F2 X1 N2 T1 ?hk ?hx ?hd ?hu rfl rfl (by decide) (by decide) ?hnone ?hsome
  case hk => rfl
  case hx =>
    have e1 : (PySem.Str.ofString "\\").length = 1 := rfl
    have e2 := PyProof.Txt.length_slice_le x (some (i : Int)) (some ((i : Int) + (n : Int)))
    rw [PySem.Str.length_append, PySem.Str.length_append, e1]
    clear B N T BG T1 X1 F2 N2
    omega
  case hd => show dp + 1 + 3 < recursionLimit; omega
  case hu => show un + 3 + 20 < cLine; omega
  case hnone =>
    intro hr h' tk' F3 N3
    replace hr := Kept.mk hr
    k_steps
    refine' hret _ _ _ _ ?o ?F ?N
    case N => assumption
    case F => assumption
    case o => exact .inr (.inl ⟨by omega, hr.get, _, _, _, _, _, _, rfl⟩)
  case hsome =>
    intro r hr t h' tk' F3 N3
    replace hr := Kept.mk hr
    k_steps
    refine' hret _ _ _ _ ?o ?F ?N
    case N => assumption
    case F => assumption
    case o => exact .inr (.inr ⟨by omega, r, hr.get, _, _, rfl⟩)
end Mine
end
section
local macro_rules | `(tactic| walk_at "no such word") => `(tactic| fail)
local macro_rules | `(tactic| walk_at "no such word") => `(tactic| fail)
theorem Mine.fresh_D32 : True := by
  w_top off
  k_with_none
  trivial
open PySem PySem.W PyProof.Rows PySem.Calls
set_option Elab.async false
set_option maxRecDepth 100000
set_option maxHeartbeats 2000000
namespace Mine
local macro_rules | `(tactic| walk_at "getMethod str") => `(tactic| (k_here; (with_reducible show wpAny _ _ (getMethod (Value.str _ _) (Str.ofString "encode") _) _ _ _); (refine getMethod_builtin (typeIs_str _ _ _) PySem.F.plainAttrs_str slot_encode type_encode (fun a e => nomatch e) ?_)))
local macro_rules | `(tactic| walk_at "call builtin:str.encode") => `(tactic| (k_here; (refine call_encode (by assumption) (by omega) ?_); intro t' k'))
local macro_rules | `(tactic| walk_at "subscriptTail") => `(tactic| (k_here; (with_reducible rename Fr _ _ _ _ => F'); (with_reducible rename News _ _ _ _ => N'); (refine slice_strN_ss_len (hsz := ?hsz) (s := ⟨_, _, _, _, _⟩) F' N' ?_); (case hsz => (rw [PySem.sizeLine_eq]; omega)); intro h' t' k' F' N' hl'))
local macro_rules | `(tactic| walk_at "binaryOp Add str str") => `(tactic| (k_here; (refine KOpn.add (by simp only [PySem.Str.length_append] at *; (try kopn_lits); omega) ?_); intro t' k' hl'))
local macro_rules | `(tactic| walk_at "call ref") => `(tactic| (k_here; (with_reducible show wpAny _ _ (call (Value.ref 203) _) _ _ _); refine stop_at ?_))
theorem due_2 (w : World) (p : Program) (loose : List PySem.Str) (mean : ExcName → Option Value) (mg mb : PySem.Str → Option Value) (news : List (Addr × Obj)) (x doc pre : PySem.Str) (tx td tp ti tn to tli : Tok) (line : Int) (i n : Nat)
  (dp un : Nat) (gd : Option (List Code)) (cn : PySem.Str) (cs : Scope) (a' : Addr) (ccd : Value) (cl : List (PySem.Str × Addr)) (outer : List Env) (A₀ : Around) (base h₀ : Heap) (L : Addr) (m : PySem.Str → Option Value) (s : Shared) (Q E : Value → Shared → Prop)
    (B : Below A₀ base outer h₀) (F : Fr h₀ L s.heap m) (N : News h₀ L s.heap news) (T : Top p loose mean mg mb h₀) (hcs : cs.kind = .function)
    (hd : dp + 5 < recursionLimit) (hu : un + 30 < cLine) (hx : x.length ≤ 400) (hpl : Plain x) (hpre : pre.length ≤ 4)
    (hret : ∀ l vs h' tk', OutIs x doc line i n 117 4 pre vs → Fr h₀ L h' m → News h₀ L h' ((l, listOf vs.toArray 0) :: news) → Q (.ref l) { s with heap := h', toks := tk' }) : (Mine.hd.heap_39 w.params).In h₀ →
      wpAny (model PySem.Challenge.rw_ez5014_01.row.prog w) (ktrTop dp un gd cn cs L a' ccd cl outer) (call (.ref 217) [.str doc td, .int line tli, .str x tx, .int (i : Int) ti, .int (n : Int) tn, .str pre tp, .int 2 to]) Q E s := by
  k_fill
  intro X
  refine wpAny_call ?_
  k_dflt cell_enter
  rename Below _ _ (_ :: _) _ => BG
  rename Top _ _ _ _ _ _ => T1
  rename Frag.In _ _ => X1
  k_steps
  · refine' hret _ _ _ _ ?o ?F ?N
    case N => assumption
    case F => assumption
    case o => exact .inl ⟨by omega, _, _, _, _, _, _, rfl⟩
  unfold Stop
  rename Fr _ _ _ _ => F2
  rename News _ _ _ _ => N2
  refine' turn_call w 117 4 BG F2 X1 N2 T1 ?hk ?hx ?hd ?hu rfl rfl (by decide) (by decide) ?hnone ?hsome
  case hk => rfl
  case hx =>
    have e1 : (PySem.Str.ofString "\\").length = 1 := rfl
    have e2 := PyProof.Txt.length_slice_le x (some (i : Int)) (some ((i : Int) + (n : Int)))
    rw [PySem.Str.length_append, PySem.Str.length_append, e1]
    clear B N T BG T1 X1 F2 N2
    omega
  case hd => show dp + 1 + 3 < recursionLimit; omega
  case hu => show un + 3 + 20 < cLine; omega
  case hnone =>
    intro hr h' tk' F3 N3
    replace hr := Kept.mk hr
    k_steps
    refine' hret _ _ _ _ ?o ?F ?N
    case N => assumption
    case F => assumption
    case o => exact .inr (.inl ⟨by omega, hr.get, _, _, _, _, _, _, rfl⟩)
  case hsome =>
    intro r hr t h' tk' F3 N3
    replace hr := Kept.mk hr
    k_steps
    refine' hret _ _ _ _ ?o ?F ?N
    case N => assumption
    case F => assumption
    case o => exact .inr (.inr ⟨by omega, r, hr.get, _, _, rfl⟩)
end Mine
end
section
local macro_rules | `(tactic| walk_at "no such word") => `(tactic| fail)
local macro_rules | `(tactic| walk_at "no such word") => `(tactic| fail)
local macro_rules | `(tactic| walk_at "no such word") => `(tactic| fail)
theorem Mine.fresh_D33 : True := by
  w_top off
  k_with_none
  trivial
open PySem PySem.W PyProof.Rows PySem.Calls
set_option Elab.async false
set_option maxRecDepth 100000
set_option maxHeartbeats 2000000
namespace Mine
local macro_rules | `(tactic| walk_at "getMethod str") => `(tactic| (k_here; (with_reducible show wpAny _ _ (getMethod (Value.str _ _) (Str.ofString "encode") _) _ _ _); (refine getMethod_builtin (typeIs_str _ _ _) PySem.F.plainAttrs_str slot_encode type_encode (fun a e => nomatch e) ?_)))
local macro_rules | `(tactic| walk_at "call builtin:str.encode") => `(tactic| (k_here; (refine call_encode (by assumption) (by omega) ?_); intro t' k'))
local macro_rules | `(tactic| walk_at "subscriptTail") => `(tactic| (k_here; (with_reducible rename Fr _ _ _ _ => F'); (with_reducible rename News _ _ _ _ => N'); (refine slice_strN_ss_len (hsz := ?hsz) (s := ⟨_, _, _, _, _⟩) F' N' ?_); (case hsz => (rw [PySem.sizeLine_eq]; omega)); intro h' t' k' F' N' hl'))
local macro_rules | `(tactic| walk_at "binaryOp Add str str") => `(tactic| (k_here; (refine KOpn.add (by simp only [PySem.Str.length_append] at *; (try kopn_lits); omega) ?_); intro t' k' hl'))
local macro_rules | `(tactic| walk_at "call ref") => `(tactic| (k_here; (with_reducible show wpAny _ _ (call (Value.ref 203) _) _ _ _); refine stop_at ?_))
theorem due_3 (w : World) (p : Program) (loose : List PySem.Str) (mean : ExcName → Option Value) (mg mb : PySem.Str → Option Value) (news : List (Addr × Obj)) (x doc pre : PySem.Str) (tx td tp ti tn to tli : Tok) (line : Int) (i n : Nat)
  (dp un : Nat) (gd : Option (List Code)) (cn : PySem.Str) (cs : Scope) (a' : Addr) (ccd : Value) (cl : List (PySem.Str × Addr)) (outer : List Env) (A₀ : Around) (base h₀ : Heap) (L : Addr) (m : PySem.Str → Option Value) (s : Shared) (Q E : Value → Shared → Prop)
    (B : Below A₀ base outer h₀) (F : Fr h₀ L s.heap m) (N : News h₀ L s.heap news) (T : Top p loose mean mg mb h₀) (hcs : cs.kind = .function)
    (hd : dp + 5 < recursionLimit) (hu : un + 30 < cLine) (hx : x.length ≤ 400) (hpl : Plain x) (hpre : pre.length ≤ 4)
    (hret : ∀ l vs h' tk', OutIs x doc line i n 85 8 pre vs → Fr h₀ L h' m → News h₀ L h' ((l, listOf vs.toArray 0) :: news) → Q (.ref l) { s with heap := h', toks := tk' }) : (Mine.hd.heap_39 w.params).In h₀ →
      wpAny (model PySem.Challenge.rw_ez5014_01.row.prog w) (ktrTop dp un gd cn cs L a' ccd cl outer) (call (.ref 217) [.str doc td, .int line tli, .str x tx, .int (i : Int) ti, .int (n : Int) tn, .str pre tp, .int 3 to]) Q E s := by
  k_fill
  intro X
  refine wpAny_call ?_
  k_dflt cell_enter
  rename Below _ _ (_ :: _) _ => BG
  rename Top _ _ _ _ _ _ => T1
  rename Frag.In _ _ => X1
  k_steps
  · refine' hret _ _ _ _ ?o ?F ?N
    case N => assumption
    case F => assumption
    case o => exact .inl ⟨by omega, _, _, _, _, _, _, rfl⟩
  unfold Stop
  rename Fr _ _ _ _ => F2
  rename News _ _ _ _ => N2
  refine' turn_call w 85 8 BG F2 X1 N2 T1 ?hk ?hx ?hd ?hu rfl rfl (by decide) (by decide) ?hnone ?hsome
  case hk => rfl
  case hx =>
    have e1 : (PySem.Str.ofString "\\").length = 1 := rfl
    have e2 := PyProof.Txt.length_slice_le x (some (i : Int)) (some ((i : Int) + (n : Int)))
    rw [PySem.Str.length_append, PySem.Str.length_append, e1]
    clear B N T BG T1 X1 F2 N2
    omega
  case hd => show dp + 1 + 3 < recursionLimit; omega
  case hu => show un + 3 + 20 < cLine; omega
  case hnone =>
    intro hr h' tk' F3 N3
    replace hr := Kept.mk hr
    k_steps
    refine' hret _ _ _ _ ?o ?F ?N
    case N => assumption
    case F => assumption
    case o => exact .inr (.inl ⟨by omega, hr.get, _, _, _, _, _, _, rfl⟩)
  case hsome =>
    intro r hr t h' tk' F3 N3
    replace hr := Kept.mk hr
    k_steps
    refine' hret _ _ _ _ ?o ?F ?N
    case N => assumption
    case F => assumption
    case o => exact .inr (.inr ⟨by omega, r, hr.get, _, _, rfl⟩)
end Mine
end
section
open PySem PySem.W PyProof.Rows PySem.Calls
set_option Elab.async false
set_option maxRecDepth 100000
set_option maxHeartbeats 2000000
namespace Mine
theorem lookIn_of {o : Obj} {mA : PySem.Str → Option Value} {name : PySem.Str} {v : Value} (D : DictIs o mA) (h : mA name = some v) : lookIn name o = some (some v) := by
  obtain ⟨es, ep, hd, hk, hu, hm⟩ := D
  have h1 := (hm name).trans h
  unfold lookIn
  rw [hd]
  dsimp only
  unfold nsFind findBy at h1
  rw [Option.map_eq_some_iff] at h1
  obtain ⟨en, h2, h3⟩ := h1
  have h4 : es.toList.find? (·.key.isStr name) = some en := by
    rw [Array.find?_toList]
    exact h2
  rw [h4, ← h3]
theorem slot_syn : Slot "SyntaxError" "__getattribute__" "BaseException.__getattribute__" :=
  .of (owner := "BaseException") (n := "__getattribute__") (by rw [typeLookup_type, builtinLookup_eq_fast]; kernel_rfl) (by decide +kernel) (by decide +kernel) (by decide +kernel)
    (by first | exact .inl (by decide +kernel) | exact .inr (by decide +kernel)) (by rw [isSubtype_type]; kernel_rfl)
theorem b_ga (w : World) : findIn (Mine.hd.heap_39 w.params) (.ref 158) "__getattribute__" = some (some (.builtin "BaseException.__getattribute__")) := by kernel_rfl
theorem b_gt (w : World) : findIn (Mine.hd.heap_39 w.params) (.ref 158) "__getattr__" = some none := by kernel_rfl
theorem b_sub (w : World) : subIn (Mine.hd.heap_39 w.params) (.ref 158) (.type "BaseException") = some true := by kernel_rfl
theorem b_none (w : World) (name : PySem.Str) (h : name = "_str" ∨ name = "_i" ∨ name = "_why" ∨ name = "lines" ∨ name = "_uri") : findIn (Mine.hd.heap_39 w.params) (.ref 158) name = some none := by
  rcases h with rfl | rfl | rfl | rfl | rfl <;> kernel_rfl
theorem b_cls (w : World) : ∃ cd, clsIn (Mine.hd.heap_39 w.params) 158 = some cd ∧ cd.hasDict = true := ⟨_, rfl, rfl⟩
theorem bad_find (w : World) {od : Obj} {name : PySem.Str} {v : Value} (h : name = "_str" ∨ name = "_i" ∨ name = "_why" ∨ name = "lines" ∨ name = "_uri") (hl : lookIn name od = some (some v)) : findObj (Mine.hd.heap_39 w.params) 158 (some od) name = some (.value v) := by
  obtain ⟨cd, hc, hd⟩ := b_cls w
  unfold findObj
  rw [hc, b_none w name h]
  have e : W.ownOf cd (some od) name = some (some v) := by
    unfold W.ownOf
    rw [hd, if_pos rfl]
    exact hl
  simp only [Option.bind_some, e]
section
variable {w : World} {A : Around} {E : Value → Shared → Prop} {hh : Heap} {g : Array GenState} {dr : Drawn} {t : Nat} {os : OsState} {e : Addr} {ox od : Obj} {prog : Program} {name : PySem.Str} {v : Value}
theorem check_ga {M : Model} {nameV : Value} {Q : Unit → Shared → Prop} (L4 : Looks M hh (isInstance (.ref e) (.type "BaseException")) true) (h : Q () ⟨hh, g, dr, t, os⟩) :
    wpAny M A (checkBuiltinCall "BaseException.__getattribute__" ⟨[.ref e, nameV], []⟩) Q E ⟨hh, g, dr, t, os⟩ := by
  have k := fun L4 h => @check_slot M A E ⟨hh, g, dr, t, os⟩ "BaseException.__getattribute__" "BaseException" "__getattribute__" (.ref e) [nameV] [] Q (by decide +kernel) (by decide +kernel) L4 (PySem.F.args_bexc_ga _ _) h
  exact k L4 h
theorem entry_ga {Q : PySem.Fin → Shared → Prop} {tk : Tok} (L0 : Looks (model prog w) hh (typeOf (.ref e)) (.ref 158)) (L3 : Looks (model prog w) hh (Builtin.ObjectAttr.find (.ref e) (.ref 158) name) (.value v)) (h : Q (.done (.ret v)) ⟨hh, g, dr, t, os⟩) :
    wpAny (model prog w) A (Builtin.«object.__getattribute__» ⟨[.ref e, .str name tk], []⟩) Q E ⟨hh, g, dr, t, os⟩ := by
  unfold Builtin.«object.__getattribute__»
  refine wpAny_bind (wpAny_pure ?_)
  refine wpAny_bind (wpAny_pure ?_)
  refine wpAny_bind (L0.at ?_)
  refine wpAny_bind (L3.at ?_)
  exact wpAny_pure h
end
theorem get_bad (w : World) {A : Around} {E : Value → Shared → Prop} {hh : Heap} {g : Array GenState} {dr : Drawn} {t : Nat} {os : OsState} {e : Addr} {ox od : Obj} {prog : Program} {expr : Bool} {name : PySem.Str} {v : Value} {Q : Value → Shared → Prop}
    (X : (Mine.hd.heap_39 w.params).In hh) (I : InstAt hh e ox 158 (some od)) (hf : findObj (Mine.hd.heap_39 w.params) 158 (some od) name = some (.value v)) (hv : handedIn v = true) (h : Q v ⟨hh, g, dr, t + 1, os⟩) :
    wpAny (model prog w) A (getAttr (.ref e) name expr) Q E ⟨hh, g, dr, t, os⟩ := by
  have L0 := I.type (M := model prog w)
  have L1 := looks_findIn (M := model prog w) X (b_ga w)
  have L2 := looks_findIn (M := model prog w) X (b_gt w)
  have L3 := looks_find (M := model prog w) X I hf
  have L4 : Looks (model prog w) hh (isInstance (.ref e) (.type "BaseException")) true := L0.andThen (looks_subIn X (b_sub w))
  have f3 := slot_syn.bind (.ref e)
  have hx0 : (expr && onTheHeap (Value.builtin "BaseException.__getattribute__")) = false := by cases expr <;> rfl
  have hx2 : (Value.builtin "BaseException.__getattribute__" == Value.builtin "object.__getattribute__") = false := by decide +kernel
  have hx1 : (onTheHeap (Value.ref 158) && Value.builtin "BaseException.__getattribute__" == Value.builtin "object.__getattribute__") = false := by rw [hx2]; rfl
  have hk : builtinKind "BaseException.__getattribute__" = some .slot := by decide +kernel
  have hsplit : splitId "BaseException.__getattribute__" = some ("BaseException", "__getattribute__") := by decide +kernel
  unfold getAttr getAttrBy
  repeat (any_goals (first | assumption | with_reducible refine L0.at ?_ | with_reducible refine L1.at ?_ | with_reducible refine L2.at ?_ | wp_step))
  show codeAny _ _ (.call (.builtin "BaseException.__getattribute__") ⟨[.ref e, .str name t], []⟩) _ _
  refine codeAny_call_builtin slot_syn.plain PySem.F.entry_bexc_ga ?_
  refine check_ga L4 ?_
  refine entry_ga L0 L3 ?_
  show wpAny _ _ (handedOut v) _ _ _
  rw [handedOut_of hv]
  exact wpAny_pure h
theorem bad_get (w : World) {A : Around} {E : Value → Shared → Prop} {s : Shared} {h₀ : Heap} {L e d : Addr} {m mA : PySem.Str → Option Value} {news : List (Addr × Obj)} {oe od : Obj} {ctx : Value} {prog : Program} {expr : Bool} {name : PySem.Str} {v : Value} {Q : Value → Shared → Prop}
    (he : (e, oe) ∈ news) (xo : Xo (.ref 158) (some d) ctx oe) (hd : (d, od) ∈ news) (F : Fr h₀ L s.heap m) (N : News h₀ L s.heap news) (X : (Mine.hd.heap_39 w.params).In h₀) (D : DictIs od mA) (hn : name = "_str" ∨ name = "_i" ∨ name = "_why" ∨ name = "lines" ∨ name = "_uri") (hv : mA name = some v) (hh : handedIn v = true) (h : ∀ k, Q v { s with toks := k }) :
    wpAny (model prog w) A (getAttr (.ref e) name expr) Q E s := by
  obtain ⟨c1, c2, vs, c3, _⟩ := xo
  obtain ⟨hh', g, dr, tk, os⟩ := s
  refine get_bad w (X.keeps F.keep) (od := od) ⟨(N _ he).1, c1, ?_, ?_⟩ (bad_find w hn (lookIn_of D hv)) hh (h _)
  · unfold notCls; rw [c3]
  · rw [c2]; exact (N _ hd).1
end Mine
end
section
theorem Mine.fresh_M2 : True := by
  w_top off
  k_with_none
  trivial
open PySem PySem.W PyProof.Rows PySem.Calls
set_option Elab.async false
set_option maxRecDepth 100000
set_option maxHeartbeats 2000000
namespace Mine
local macro_rules | `(tactic| walk_at "getMethod ref") => `(tactic| (k_here; first | (refine reader_esc (by assumption) (by assumption) (by assumption) (by assumption) ?_) | (refine reader_u (by assumption) (by assumption) (by assumption) (by assumption) ?_) | (refine reader_U (by assumption) (by assumption) (by assumption) (by assumption) ?_)))
local macro_rules | `(tactic| walk_at "call ref") => `(tactic| (k_here; (first | (with_reducible show wpAny _ _ (call (Value.ref 113) _) _ _ _) | (with_reducible show wpAny _ _ (call (Value.ref 120) _) _ _ _) | (with_reducible show wpAny _ _ (call (Value.ref 127) _) _ _ _)); refine stop_at ?_))
theorem call_0 (w : World) (p : Program) (loose : List PySem.Str) (mean : ExcName → Option Value) (mg mb : PySem.Str → Option Value) (news : List (Addr × Obj)) (x doc pre : PySem.Str) (tx tp ti tn to tli : Tok) (line : Int) (sx : Addr) (i n : Nat)
  (dp un : Nat) (gd : Option (List Code)) (cn : PySem.Str) (cs : Scope) (a' : Addr) (ccd : Value) (A₀ : Around) (base h₀ : Heap) (L : Addr) (m : PySem.Str → Option Value) (s : Shared) (Q E : Value → Shared → Prop)
    (B : Below A₀ base [] h₀) (F : Fr h₀ L s.heap m) (N : News h₀ L s.heap news) (T : Top p loose mean mg mb h₀) (TB : Top p loose mean mg mb base) (hcs : cs.kind = .function)
    (hd : dp + 8 < recursionLimit) (hu : un + 40 < cLine) (R : ReaderAt news sx doc) (hx : x.length ≤ 400) (hpl : Plain x) (hi : i ≤ 400)
    (hret : ∀ l vs c h' tk' news', (∀ q ∈ news, q ∈ news') → OutIs x doc line i 4 117 4 (PySem.Str.ofString "u") vs → Fr h₀ L h' m → News h₀ L h' ((l, listOf vs.toArray c) :: news') → Q (.ref l) { s with heap := h', toks := tk' }) : (Mine.hd.heap_39 w.params).In h₀ → (Mine.hd.heap_39 w.params).In base →
      wpAny (model PySem.Challenge.rw_ez5014_01.row.prog w) (ktrTop dp un gd cn cs L a' ccd [] []) (call (.ref 224) [.ref sx, .str x tx, .int (i : Int) ti, .int line tli, .int 4 tn, .str pre tp, .int 0 to]) Q E s := by
  k_fill
  intro X XB
  refine wpAny_call ?_
  k_dflt (refine' code_defS0 ?k1 ?k2 ?k3 ?k4 ?k5 ?kA ?k6 ?k7 ?k8 ?k9 ?kB ?_ ?cK ?c2 ?c3 ?c4 ?c5; (case kA => exact rfl); (case k2 => exact F); (case k1 => exact B); (case k3 => exact X); (case k4 => exact N); (case k5 => exact T); (case k6 => k_is); (case k7 => k_is); (case k8 => ktr_room); (case k9 => exact BindsTo.of_eq rfl); (case kB => exact locs rfl); (case cK => assumption); (case c2 => exact rfl); (case c3 => exact rfl); (case c4 => exact rfl); (case c5 => decide))
  intro g1 L1 h1 FG F1 N1 BG X1 T1 D1
  k_steps
  unfold Stop
  refine' u_all w p loose mean mg mb news x tx sx doc i ti _ (dp + 1) _ _ _ _ _ _ _ _ _ base _ _ _ _ _ _ BG F1 N1 T1 TB D1 ?hcs ?hd ?hu R ?hx hpl ?hi ?hraise ?hret X1 XB
  case hcs => rfl
  case hd => show dp + 1 + 5 < recursionLimit; omega
  case hu => show un + 3 + 23 < cLine; omega
  case hx => omega
  case hi => omega
  case hret =>
    intro hl r hr tup t1 t2 h' tk' F3 N3
    have N3 : News g1 L1 h' ((tup, { cls := .type "tuple", data := .seq #[.int ((i : Int) + (4 : Nat)) t1, .str ⟨r.toArray⟩ t2] }) :: news) := N3
    k_steps
    refine' hret _ _ _ _ _ _ ?sub ?o ?F ?N
    case N => assumption
    case F => assumption
    case sub => exact fun q hq => .tail _ hq
    case o => exact .inr (.inr ⟨hl, r, hr, _, _, rfl⟩)
  case hraise =>
    intro why ctx h1 G e d od news' h' tk' T2 F3 B3 R3 hd1 hd2 BD hwhy
    refine fly_look B3 F3 R3 (fun h2 R2 => ?_)
    refine fly_hitAs R2 F3 B3 XB TB (D1.turn T2) (test_name (c := .ref 158) (.inl (by k_is)) (by kts_exm) rfl rfl (by decide)) ?_
    intro h3 g3 oe tk3 T3 F4 N4 xo B4 X4 P4 D4
    have TT := T2.trans T3
    obtain ⟨tw, tb, DI⟩ := BD
    have hm1 : (e, oe) ∈ ((e, oe) :: news') := .head _
    have hm2 : (d, od) ∈ ((e, oe) :: news') := .tail _ hd1
    have hwhy' : ∃ why0 t0, why = .str why0 t0 := by
      rcases hwhy with ⟨_, t, rfl⟩ | ⟨_, _, t, rfl⟩ <;> exact ⟨_, _, rfl⟩
    obtain ⟨why0, t0, rfl⟩ := hwhy'
    k_with "getAttr ref" => ((refine bad_get w hm1 xo hm2 (by assumption) (by assumption) (by assumption) DI (by decide) rfl rfl ?_); intro k')
    k_steps
    refine' hret _ _ _ _ _ _ ?sub ?o ?F ?N
    case N => assumption
    case F => assumption
    case sub => exact fun q hq => .tail _ (hd2 q hq)
    case o =>
      rcases hwhy with ⟨hlt, t, ht⟩ | ⟨hle, hno, t, ht⟩
      · cases ht
        exact .inl ⟨hlt, _, _, _, _, _, _, rfl⟩
      · cases ht
        exact .inr (.inl ⟨hle, hno, _, _, _, _, _, _, rfl⟩)
theorem call_1 (w : World) (p : Program) (loose : List PySem.Str) (mean : ExcName → Option Value) (mg mb : PySem.Str → Option Value) (news : List (Addr × Obj)) (x doc pre : PySem.Str) (tx tp ti tn to tli : Tok) (line : Int) (sx : Addr) (i n : Nat)
  (dp un : Nat) (gd : Option (List Code)) (cn : PySem.Str) (cs : Scope) (a' : Addr) (ccd : Value) (A₀ : Around) (base h₀ : Heap) (L : Addr) (m : PySem.Str → Option Value) (s : Shared) (Q E : Value → Shared → Prop)
    (B : Below A₀ base [] h₀) (F : Fr h₀ L s.heap m) (N : News h₀ L s.heap news) (T : Top p loose mean mg mb h₀) (TB : Top p loose mean mg mb base) (hcs : cs.kind = .function)
    (hd : dp + 8 < recursionLimit) (hu : un + 40 < cLine) (R : ReaderAt news sx doc) (hx : x.length ≤ 400) (hpl : Plain x) (hi : i ≤ 400)
    (hret : ∀ l vs c h' tk' news', (∀ q ∈ news, q ∈ news') → OutIs x doc line i 8 85 8 (PySem.Str.ofString "U") vs → Fr h₀ L h' m → News h₀ L h' ((l, listOf vs.toArray c) :: news') → Q (.ref l) { s with heap := h', toks := tk' }) : (Mine.hd.heap_39 w.params).In h₀ → (Mine.hd.heap_39 w.params).In base →
      wpAny (model PySem.Challenge.rw_ez5014_01.row.prog w) (ktrTop dp un gd cn cs L a' ccd [] []) (call (.ref 224) [.ref sx, .str x tx, .int (i : Int) ti, .int line tli, .int 8 tn, .str pre tp, .int 1 to]) Q E s := by
  k_fill
  intro X XB
  refine wpAny_call ?_
  k_dflt (refine' code_defS0 ?k1 ?k2 ?k3 ?k4 ?k5 ?kA ?k6 ?k7 ?k8 ?k9 ?kB ?_ ?cK ?c2 ?c3 ?c4 ?c5; (case kA => exact rfl); (case k2 => exact F); (case k1 => exact B); (case k3 => exact X); (case k4 => exact N); (case k5 => exact T); (case k6 => k_is); (case k7 => k_is); (case k8 => ktr_room); (case k9 => exact BindsTo.of_eq rfl); (case kB => exact locs rfl); (case cK => assumption); (case c2 => exact rfl); (case c3 => exact rfl); (case c4 => exact rfl); (case c5 => decide))
  intro g1 L1 h1 FG F1 N1 BG X1 T1 D1
  k_steps
  unfold Stop
  refine' U_all w p loose mean mg mb news x tx sx doc i ti _ (dp + 1) _ _ _ _ _ _ _ _ _ base _ _ _ _ _ _ BG F1 N1 T1 TB D1 ?hcs ?hd ?hu R ?hx hpl ?hi ?hraise ?hret X1 XB
  case hcs => rfl
  case hd => show dp + 1 + 5 < recursionLimit; omega
  case hu => show un + 3 + 23 < cLine; omega
  case hx => omega
  case hi => omega
  case hret =>
    intro hl r hr tup t1 t2 h' tk' F3 N3
    have N3 : News g1 L1 h' ((tup, { cls := .type "tuple", data := .seq #[.int ((i : Int) + (8 : Nat)) t1, .str ⟨r.toArray⟩ t2] }) :: news) := N3
    k_steps
    refine' hret _ _ _ _ _ _ ?sub ?o ?F ?N
    case N => assumption
    case F => assumption
    case sub => exact fun q hq => .tail _ hq
    case o => exact .inr (.inr ⟨hl, r, hr, _, _, rfl⟩)
  case hraise =>
    intro why ctx h1 G e d od news' h' tk' T2 F3 B3 R3 hd1 hd2 BD hwhy
    refine fly_look B3 F3 R3 (fun h2 R2 => ?_)
    refine fly_hitAs R2 F3 B3 XB TB (D1.turn T2) (test_name (c := .ref 158) (.inl (by k_is)) (by kts_exm) rfl rfl (by decide)) ?_
    intro h3 g3 oe tk3 T3 F4 N4 xo B4 X4 P4 D4
    have TT := T2.trans T3
    obtain ⟨tw, tb, DI⟩ := BD
    have hm1 : (e, oe) ∈ ((e, oe) :: news') := .head _
    have hm2 : (d, od) ∈ ((e, oe) :: news') := .tail _ hd1
    have hwhy' : ∃ why0 t0, why = .str why0 t0 := by
      rcases hwhy with ⟨_, t, rfl⟩ | ⟨_, _, t, rfl⟩ <;> exact ⟨_, _, rfl⟩
    obtain ⟨why0, t0, rfl⟩ := hwhy'
    k_with "getAttr ref" => ((refine bad_get w hm1 xo hm2 (by assumption) (by assumption) (by assumption) DI (by decide) rfl rfl ?_); intro k')
    k_steps
    refine' hret _ _ _ _ _ _ ?sub ?o ?F ?N
    case N => assumption
    case F => assumption
    case sub => exact fun q hq => .tail _ (hd2 q hq)
    case o =>
      rcases hwhy with ⟨hlt, t, ht⟩ | ⟨hle, hno, t, ht⟩
      · cases ht
        exact .inl ⟨hlt, _, _, _, _, _, _, rfl⟩
      · cases ht
        exact .inr (.inl ⟨hle, hno, _, _, _, _, _, _, rfl⟩)
end Mine
end
section
local macro_rules | `(tactic| walk_at "no such word") => `(tactic| fail)
theorem Mine.fresh_M3 : True := by
  w_top off
  k_with_none
  trivial
open PySem PySem.W PyProof.Rows PySem.Calls
set_option Elab.async false
set_option maxRecDepth 100000
set_option maxHeartbeats 2000000
namespace Mine
local macro_rules | `(tactic| walk_at "getMethod ref") => `(tactic| (k_here; first | (refine reader_esc (by assumption) (by assumption) (by assumption) (by assumption) ?_) | (refine reader_u (by assumption) (by assumption) (by assumption) (by assumption) ?_) | (refine reader_U (by assumption) (by assumption) (by assumption) (by assumption) ?_)))
local macro_rules | `(tactic| walk_at "call ref") => `(tactic| (k_here; (first | (with_reducible show wpAny _ _ (call (Value.ref 113) _) _ _ _) | (with_reducible show wpAny _ _ (call (Value.ref 120) _) _ _ _) | (with_reducible show wpAny _ _ (call (Value.ref 127) _) _ _ _)); refine stop_at ?_))
theorem call_2 (w : World) (p : Program) (loose : List PySem.Str) (mean : ExcName → Option Value) (mg mb : PySem.Str → Option Value) (news : List (Addr × Obj)) (x doc pre : PySem.Str) (tx tp ti tn to tli : Tok) (line : Int) (sx : Addr) (i n : Nat)
  (dp un : Nat) (gd : Option (List Code)) (cn : PySem.Str) (cs : Scope) (a' : Addr) (ccd : Value) (A₀ : Around) (base h₀ : Heap) (L : Addr) (m : PySem.Str → Option Value) (s : Shared) (Q E : Value → Shared → Prop)
    (B : Below A₀ base [] h₀) (F : Fr h₀ L s.heap m) (N : News h₀ L s.heap news) (T : Top p loose mean mg mb h₀) (TB : Top p loose mean mg mb base) (hcs : cs.kind = .function)
    (hd : dp + 8 < recursionLimit) (hu : un + 40 < cLine) (R : ReaderAt news sx doc) (hx : x.length ≤ 400) (hpl : Plain x) (hi : i ≤ 400) (hn : n ≤ 400) (hpre : pre.length ≤ 4)
    (hret : ∀ l vs c h' tk' news', (∀ q ∈ news, q ∈ news') → OutIs x doc line i n 117 4 pre vs → Fr h₀ L h' m → News h₀ L h' ((l, listOf vs.toArray c) :: news') → Q (.ref l) { s with heap := h', toks := tk' }) : (Mine.hd.heap_39 w.params).In h₀ → (Mine.hd.heap_39 w.params).In base →
      wpAny (model PySem.Challenge.rw_ez5014_01.row.prog w) (ktrTop dp un gd cn cs L a' ccd [] []) (call (.ref 224) [.ref sx, .str x tx, .int (i : Int) ti, .int line tli, .int (n : Int) tn, .str pre tp, .int 2 to]) Q E s := by
  k_fill
  intro X XB
  refine wpAny_call ?_
  k_dflt (refine' code_defS0 ?k1 ?k2 ?k3 ?k4 ?k5 ?kA ?k6 ?k7 ?k8 ?k9 ?kB ?_ ?cK ?c2 ?c3 ?c4 ?c5; (case kA => exact rfl); (case k2 => exact F); (case k1 => exact B); (case k3 => exact X); (case k4 => exact N); (case k5 => exact T); (case k6 => k_is); (case k7 => k_is); (case k8 => ktr_room); (case k9 => exact BindsTo.of_eq rfl); (case kB => exact locs rfl); (case cK => assumption); (case c2 => exact rfl); (case c3 => exact rfl); (case c4 => exact rfl); (case c5 => decide))
  intro g1 L1 h1 FG F1 N1 BG X1 T1 D1
  k_steps
  unfold Stop
  refine' esc_all w p loose mean mg mb news x tx sx doc i n ti _ _ 50 49 117 4 pre _ (dp + 1) _ _ _ _ _ _ _ _ _ base _ _ _ _ _ _ BG F1 N1 T1 TB D1 ?hcs ?hd ?hu R (pat4 w X1) ⟨_, X1 50 _ rfl, rfl⟩ (by decide) (by decide) ?hx hpl hpre ?hi ?hn ?hraise ?hret X1 XB
  case hcs => rfl
  case hd => show dp + 1 + 4 < recursionLimit; omega
  case hu => show un + 3 + 20 < cLine; omega
  case hx => omega
  case hi => omega
  case hn => omega
  case hret =>
    intro hl r hr tup t1 t2 h' tk' F3 N3
    have N3 : News g1 L1 h' ((tup, { cls := .type "tuple", data := .seq #[.int ((i : Int) + (n : Int)) t1, .str ⟨r.toArray⟩ t2] }) :: news) := N3
    k_steps
    refine' hret _ _ _ _ _ _ ?sub ?o ?F ?N
    case N => assumption
    case F => assumption
    case sub => exact fun q hq => .tail _ hq
    case o => exact .inr (.inr ⟨hl, r, hr, _, _, rfl⟩)
  case hraise =>
    intro why ctx h1 G e d od news' h' tk' T2 F3 B3 R3 hd1 hd2 BD hwhy
    refine fly_look B3 F3 R3 (fun h2 R2 => ?_)
    refine fly_hitAs R2 F3 B3 XB TB (D1.turn T2) (test_name (c := .ref 158) (.inl (by k_is)) (by kts_exm) rfl rfl (by decide)) ?_
    intro h3 g3 oe tk3 T3 F4 N4 xo B4 X4 P4 D4
    have TT := T2.trans T3
    obtain ⟨tw, tb, DI⟩ := BD
    have hm1 : (e, oe) ∈ ((e, oe) :: news') := .head _
    have hm2 : (d, od) ∈ ((e, oe) :: news') := .tail _ hd1
    have hwhy' : ∃ why0 t0, why = .str why0 t0 := by
      rcases hwhy with ⟨_, t, rfl⟩ | ⟨_, _, t, rfl⟩ <;> exact ⟨_, _, rfl⟩
    obtain ⟨why0, t0, rfl⟩ := hwhy'
    k_with "getAttr ref" => ((refine bad_get w hm1 xo hm2 (by assumption) (by assumption) (by assumption) DI (by decide) rfl rfl ?_); intro k')
    k_steps
    refine' hret _ _ _ _ _ _ ?sub ?o ?F ?N
    case N => assumption
    case F => assumption
    case sub => exact fun q hq => .tail _ (hd2 q hq)
    case o =>
      rcases hwhy with ⟨hlt, t, ht⟩ | ⟨hle, hno, t, ht⟩
      · cases ht
        exact .inl ⟨hlt, _, _, _, _, _, _, rfl⟩
      · cases ht
        exact .inr (.inl ⟨hle, hno, _, _, _, _, _, _, rfl⟩)
theorem call_3 (w : World) (p : Program) (loose : List PySem.Str) (mean : ExcName → Option Value) (mg mb : PySem.Str → Option Value) (news : List (Addr × Obj)) (x doc pre : PySem.Str) (tx tp ti tn to tli : Tok) (line : Int) (sx : Addr) (i n : Nat)
  (dp un : Nat) (gd : Option (List Code)) (cn : PySem.Str) (cs : Scope) (a' : Addr) (ccd : Value) (A₀ : Around) (base h₀ : Heap) (L : Addr) (m : PySem.Str → Option Value) (s : Shared) (Q E : Value → Shared → Prop)
    (B : Below A₀ base [] h₀) (F : Fr h₀ L s.heap m) (N : News h₀ L s.heap news) (T : Top p loose mean mg mb h₀) (TB : Top p loose mean mg mb base) (hcs : cs.kind = .function)
    (hd : dp + 8 < recursionLimit) (hu : un + 40 < cLine) (R : ReaderAt news sx doc) (hx : x.length ≤ 400) (hpl : Plain x) (hi : i ≤ 400) (hn : n ≤ 400) (hpre : pre.length ≤ 4)
    (hret : ∀ l vs c h' tk' news', (∀ q ∈ news, q ∈ news') → OutIs x doc line i n 85 8 pre vs → Fr h₀ L h' m → News h₀ L h' ((l, listOf vs.toArray c) :: news') → Q (.ref l) { s with heap := h', toks := tk' }) : (Mine.hd.heap_39 w.params).In h₀ → (Mine.hd.heap_39 w.params).In base →
      wpAny (model PySem.Challenge.rw_ez5014_01.row.prog w) (ktrTop dp un gd cn cs L a' ccd [] []) (call (.ref 224) [.ref sx, .str x tx, .int (i : Int) ti, .int line tli, .int (n : Int) tn, .str pre tp, .int 3 to]) Q E s := by
  k_fill
  intro X XB
  refine wpAny_call ?_
  k_dflt (refine' code_defS0 ?k1 ?k2 ?k3 ?k4 ?k5 ?kA ?k6 ?k7 ?k8 ?k9 ?kB ?_ ?cK ?c2 ?c3 ?c4 ?c5; (case kA => exact rfl); (case k2 => exact F); (case k1 => exact B); (case k3 => exact X); (case k4 => exact N); (case k5 => exact T); (case k6 => k_is); (case k7 => k_is); (case k8 => ktr_room); (case k9 => exact BindsTo.of_eq rfl); (case kB => exact locs rfl); (case cK => assumption); (case c2 => exact rfl); (case c3 => exact rfl); (case c4 => exact rfl); (case c5 => decide))
  intro g1 L1 h1 FG F1 N1 BG X1 T1 D1
  k_steps
  unfold Stop
  refine' esc_all w p loose mean mg mb news x tx sx doc i n ti _ _ 55 54 85 8 pre _ (dp + 1) _ _ _ _ _ _ _ _ _ base _ _ _ _ _ _ BG F1 N1 T1 TB D1 ?hcs ?hd ?hu R (pat8 w X1) ⟨_, X1 55 _ rfl, rfl⟩ (by decide) (by decide) ?hx hpl hpre ?hi ?hn ?hraise ?hret X1 XB
  case hcs => rfl
  case hd => show dp + 1 + 4 < recursionLimit; omega
  case hu => show un + 3 + 20 < cLine; omega
  case hx => omega
  case hi => omega
  case hn => omega
  case hret =>
    intro hl r hr tup t1 t2 h' tk' F3 N3
    have N3 : News g1 L1 h' ((tup, { cls := .type "tuple", data := .seq #[.int ((i : Int) + (n : Int)) t1, .str ⟨r.toArray⟩ t2] }) :: news) := N3
    k_steps
    refine' hret _ _ _ _ _ _ ?sub ?o ?F ?N
    case N => assumption
    case F => assumption
    case sub => exact fun q hq => .tail _ hq
    case o => exact .inr (.inr ⟨hl, r, hr, _, _, rfl⟩)
  case hraise =>
    intro why ctx h1 G e d od news' h' tk' T2 F3 B3 R3 hd1 hd2 BD hwhy
    refine fly_look B3 F3 R3 (fun h2 R2 => ?_)
    refine fly_hitAs R2 F3 B3 XB TB (D1.turn T2) (test_name (c := .ref 158) (.inl (by k_is)) (by kts_exm) rfl rfl (by decide)) ?_
    intro h3 g3 oe tk3 T3 F4 N4 xo B4 X4 P4 D4
    have TT := T2.trans T3
    obtain ⟨tw, tb, DI⟩ := BD
    have hm1 : (e, oe) ∈ ((e, oe) :: news') := .head _
    have hm2 : (d, od) ∈ ((e, oe) :: news') := .tail _ hd1
    have hwhy' : ∃ why0 t0, why = .str why0 t0 := by
      rcases hwhy with ⟨_, t, rfl⟩ | ⟨_, _, t, rfl⟩ <;> exact ⟨_, _, rfl⟩
    obtain ⟨why0, t0, rfl⟩ := hwhy'
    k_with "getAttr ref" => ((refine bad_get w hm1 xo hm2 (by assumption) (by assumption) (by assumption) DI (by decide) rfl rfl ?_); intro k')
    k_steps
    refine' hret _ _ _ _ _ _ ?sub ?o ?F ?N
    case N => assumption
    case F => assumption
    case sub => exact fun q hq => .tail _ (hd2 q hq)
    case o =>
      rcases hwhy with ⟨hlt, t, ht⟩ | ⟨hle, hno, t, ht⟩
      · cases ht
        exact .inl ⟨hlt, _, _, _, _, _, _, rfl⟩
      · cases ht
        exact .inr (.inl ⟨hle, hno, _, _, _, _, _, _, rfl⟩)
end Mine
end
section
open PySem PySem.W PyProof.Rows PySem.Calls PySem.SeqAt
set_option Elab.async false
set_option maxRecDepth 100000
set_option maxHeartbeats 1000000
namespace Mine
/-- two values that are equal, by a look at them alone -/
inductive Twin : Value → Value → Prop
  | int (i : Int) (t u : Tok) : Twin (.int i t) (.int i u)
  | str (x : PySem.Str) (t u : Tok) : Twin (.str x t) (.str x u)
  | bytes (b : Array UInt8) (t u : Tok) : Twin (.bytes b t) (.bytes b u)
inductive Twins : List Value → List Value → Prop
  | nil : Twins [] []
  | cons {a b : Value} {as bs : List Value} : Twin a b → Twins as bs → Twins (a :: as) (b :: bs)
theorem Twins.len {as bs : List Value} (h : Twins as bs) : as.length = bs.length := by
  induction h with
  | nil => rfl
  | cons _ _ ih => simp [ih]
theorem Twins.at {as bs : List Value} (h : Twins as bs) : ∀ j (h1 : j < as.length) (h2 : j < bs.length), Twin as[j] bs[j] := by
  induction h with
  | nil => intro j h1; cases h1
  | cons t _ ih =>
    intro j h1 h2
    cases j with
    | zero => exact t
    | succ j => exact ih j (by simpa using h1) (by simpa using h2)
theorem Twin.eq {a b : Value} (h : Twin a b) (A : Around) (s : Shared) : EqAt A s a b true := by
  cases h with
  | int i t u =>
    have := EqAt.int_int (A := A) (s := s) i t i u
    rwa [beq_self_eq_true] at this
  | str x t u =>
    have := EqAt.str_str (A := A) (s := s) x t x u
    rwa [beq_self_eq_true] at this
  | bytes b t u =>
    intro prog w E Q h
    exact eqBool_bytes (by simpa using h)
theorem ne_twins {prog : Program} {w : World} {A : Around} {E : Value → Shared → Prop} {s : Shared} {a b : Addr} {as bs : List Value} {c d : Nat} {Q : Value → Shared → Prop} (ha : s.heap.get? a = some (W.listOf as.toArray c)) (hb : s.heap.get? b = some (W.listOf bs.toArray d)) (ht : Twins as bs) (hu : A.units + 20 < cLine) (h : Q (.bool false) s) :
    wpAny (model prog w) A (compareOp .NotEq (.ref a) (.ref b)) Q E s := by
  have hsz : as.toArray.size = bs.toArray.size := by simpa using ht.len
  show wpAny _ _ (richCompare .NotEq (.ref a) (.ref b)) _ _ _
  refine RcNeAt.lists (e := fun _ => true) ⟨_, ha, rfl, _, rfl⟩ ⟨_, hb, rfl, _, rfl⟩ hsz (by omega) (fun j h1 h2 => ?_) prog w E Q ?_
  · have := ht.at j (by simpa using h1) (by simpa using h2)
    simpa using this.eq A.in1 s
  · have e : (List.range as.toArray.size).all (fun _ => true) = true := by simp
    rw [e]
    exact h
/-- the two lists of a round are equal -/
theorem out_twins {x doc pre : PySem.Str} {line : Int} {i n u k : Nat} {vs us : List Value} (h1 : OutIs x doc line i n u k pre vs) (h2 : OutIs x doc line i n u k pre us) : Twins vs us := by
  rcases h1 with ⟨a, _, _, _, _, _, _, rfl⟩ | ⟨a, b, _, _, _, _, _, _, rfl⟩ | ⟨a, r, b, _, _, rfl⟩ <;> rcases h2 with ⟨a', _, _, _, _, _, _, rfl⟩ | ⟨a', b', _, _, _, _, _, _, rfl⟩ | ⟨a', r', b', _, _, rfl⟩
  · exact .cons (.str _ _ _) (.cons (.str _ _ _) (.cons (.int _ _ _) (.cons (.int _ _ _) (.cons (.str _ _ _) (.cons (.bytes _ _ _) .nil)))))
  · omega
  · omega
  · omega
  · exact .cons (.str _ _ _) (.cons (.str _ _ _) (.cons (.int _ _ _) (.cons (.int _ _ _) (.cons (.str _ _ _) (.cons (.bytes _ _ _) .nil)))))
  · rw [b] at b'; cases b'
  · omega
  · rw [b] at b'; cases b'
  · rw [b] at b'; cases b'
    exact .cons (.int _ _ _) (.cons (.str _ _ _) .nil)
end Mine
end
section
theorem Mine.fresh_N0 : True := by
  w_top off
  k_with_none
  trivial
open PySem PySem.W PyProof.Rows PySem.Calls
set_option Elab.async false
set_option maxRecDepth 100000
set_option maxHeartbeats 2000000
namespace Mine
theorem toks_any {α : Type} {prog : Program} {w : World} {A : Around} {E : Value → Shared → Prop} {t : Sem α} {Q : α → Shared → Prop} {h : Heap} {g : Array GenState} {d : Drawn} {k : Nat} {o : OsState} (H : ∀ tk, wpAny (model prog w) A t Q E ⟨h, g, d, tk, o⟩) : wpAny (model prog w) A t Q E ⟨h, g, d, k, o⟩ := H k
theorem plain_iff {x : PySem.Str} : Plain x ↔ ∀ c ∈ x.cps, PySem.Str.isSurrogate c = false := by
  unfold Plain
  rw [Array.any_eq_false']
  constructor
  · intro h c hc; simpa using h c hc
  · intro h c hc; simpa using h c hc
theorem plain_app {x y : PySem.Str} (hx : Plain x) (hy : Plain y) : Plain (x ++ y) := by
  rw [plain_iff] at *
  intro c hc
  rw [PySem.Str.cps_append, Array.mem_append] at hc
  rcases hc with hc | hc
  · exact hx c hc
  · exact hy c hc
theorem plain_slice {x : PySem.Str} (hx : Plain x) (l u : Option Int) : Plain (Txt.slice x l u) := by
  rw [plain_iff] at *
  intro c hc
  unfold Txt.slice at hc
  split at hc
  · exact hx c hc
  · rw [List.mem_toArray] at hc
    obtain ⟨i, _, hi⟩ := List.mem_filterMap.mp hc
    exact hx c (Array.mem_of_getElem? hi)
theorem pick_good {prog : Program} {w : World} {A : Around} {E : Value → Shared → Prop} {s : Shared} {value slice : PySem.Expr} {a : Addr} {l : List Value} {ys : List PySem.Str} {k : Int} {u : Tok} {Q : Value → Shared → Prop} (hl : s.heap.IsList a l.toArray) (hi : StrsAre l ys)
    (h0 : 0 ≤ k) (hk : k < ys.length) (hfit : k < 2 ^ 63) (hb : ys.all (fun y => decide (y.length ≤ 12) && !y.cps.any PySem.Str.isSurrogate) = true) (h : ∀ y t', y.length ≤ 12 → Plain y → Q (.str y t') s)
    (hs : subscripted slice false (.ref a) (.int k u) = operate [.ref a, .int k u] (getItem (.ref a) (.int k u)) := by with_unfolding_all rfl) (hg : ∀ r, letTemporaryGo value (.ref a) r = pure () := by intro _; with_unfolding_all rfl) :
    wpAny (model prog w) A (subscriptTail value slice (.ref a) (.int k u)) Q E s := by
  refine item_strsA hl hi h0 hk hfit (fun t' => ?_) hs hg
  have hm : ys.getD k.toNat PySem.Str.empty ∈ ys := by
    rw [List.getD_eq_getElem?_getD, List.getElem?_eq_getElem (show k.toNat < ys.length by omega)]
    exact List.getElem_mem _
  have := List.all_eq_true.mp hb _ hm
  rw [Bool.and_eq_true, decide_eq_true_eq, Bool.not_eq_true'] at this
  exact h _ t' this.1 this.2
def fourL : List PySem.Str := [PySem.Str.ofString "0041", PySem.Str.ofString "00e9", PySem.Str.ofString "20AC", PySem.Str.ofString "005c", PySem.Str.ofString "0022", PySem.Str.ofString "000A", PySem.Str.ofString "fFfD"]
theorem four_ok (w : World) (p : Program) (loose : List PySem.Str) (mean : ExcName → Option Value) (mg mb : PySem.Str → Option Value) (news : List (Addr × Obj))
  (dp un : Nat) (gd : Option (List Code)) (cn : PySem.Str) (cs : Scope) (a' : Addr) (ccd : Value) (cl : List (PySem.Str × Addr)) (outer : List Env) (A₀ : Around) (base h₀ : Heap) (L : Addr) (m : PySem.Str → Option Value) (s : Shared) (Q E : Value → Shared → Prop)
    (B : Below A₀ base outer h₀) (F : Fr h₀ L s.heap m) (N : News h₀ L s.heap news) (T : Top p loose mean mg mb h₀) (hcs : cs.kind = .function) (hd : dp + 1 < recursionLimit) (hu : un + 8 < cLine)
    (hret : ∀ l vs h' tk', StrsAre vs fourL → Fr h₀ L h' m → News h₀ L h' ((l, listOf vs.toArray 0) :: news) → Q (.ref l) { s with heap := h', toks := tk' }) : (Mine.hd.heap_39 w.params).In h₀ →
      wpAny (model PySem.Challenge.rw_ez5014_01.row.prog w) (ktrTop dp un gd cn cs L a' ccd cl outer) (call (.ref 168) []) Q E s := by
  k_fill
  intro X
  refine wpAny_call ?_
  k_dflt cell_enter
  k_steps
  refine' hret _ _ _ _ ?o ?F ?N
  case N => assumption
  case F => assumption
  case o => (repeat' (first | exact .nil | refine .cons _ _ ?_))
def eightL : List PySem.Str := [PySem.Str.ofString "00000041", PySem.Str.ofString "0001F600", PySem.Str.ofString "0010ffff", PySem.Str.ofString "0000005C", PySem.Str.ofString "000000e9", PySem.Str.ofString "00000022"]
theorem eight_ok (w : World) (p : Program) (loose : List PySem.Str) (mean : ExcName → Option Value) (mg mb : PySem.Str → Option Value) (news : List (Addr × Obj))
  (dp un : Nat) (gd : Option (List Code)) (cn : PySem.Str) (cs : Scope) (a' : Addr) (ccd : Value) (cl : List (PySem.Str × Addr)) (outer : List Env) (A₀ : Around) (base h₀ : Heap) (L : Addr) (m : PySem.Str → Option Value) (s : Shared) (Q E : Value → Shared → Prop)
    (B : Below A₀ base outer h₀) (F : Fr h₀ L s.heap m) (N : News h₀ L s.heap news) (T : Top p loose mean mg mb h₀) (hcs : cs.kind = .function) (hd : dp + 1 < recursionLimit) (hu : un + 8 < cLine)
    (hret : ∀ l vs h' tk', StrsAre vs eightL → Fr h₀ L h' m → News h₀ L h' ((l, listOf vs.toArray 0) :: news) → Q (.ref l) { s with heap := h', toks := tk' }) : (Mine.hd.heap_39 w.params).In h₀ →
      wpAny (model PySem.Challenge.rw_ez5014_01.row.prog w) (ktrTop dp un gd cn cs L a' ccd cl outer) (call (.ref 175) []) Q E s := by
  k_fill
  intro X
  refine wpAny_call ?_
  k_dflt cell_enter
  k_steps
  refine' hret _ _ _ _ ?o ?F ?N
  case N => assumption
  case F => assumption
  case o => (repeat' (first | exact .nil | refine .cons _ _ ?_))
def pastL : List PySem.Str := [PySem.Str.ofString "00110000", PySem.Str.ofString "FFFFFFFF", PySem.Str.ofString "7fffffff", PySem.Str.ofString "00200000", PySem.Str.ofString "0011abCD"]
theorem past_ok (w : World) (p : Program) (loose : List PySem.Str) (mean : ExcName → Option Value) (mg mb : PySem.Str → Option Value) (news : List (Addr × Obj))
  (dp un : Nat) (gd : Option (List Code)) (cn : PySem.Str) (cs : Scope) (a' : Addr) (ccd : Value) (cl : List (PySem.Str × Addr)) (outer : List Env) (A₀ : Around) (base h₀ : Heap) (L : Addr) (m : PySem.Str → Option Value) (s : Shared) (Q E : Value → Shared → Prop)
    (B : Below A₀ base outer h₀) (F : Fr h₀ L s.heap m) (N : News h₀ L s.heap news) (T : Top p loose mean mg mb h₀) (hcs : cs.kind = .function) (hd : dp + 1 < recursionLimit) (hu : un + 8 < cLine)
    (hret : ∀ l vs h' tk', StrsAre vs pastL → Fr h₀ L h' m → News h₀ L h' ((l, listOf vs.toArray 0) :: news) → Q (.ref l) { s with heap := h', toks := tk' }) : (Mine.hd.heap_39 w.params).In h₀ →
      wpAny (model PySem.Challenge.rw_ez5014_01.row.prog w) (ktrTop dp un gd cn cs L a' ccd cl outer) (call (.ref 182) []) Q E s := by
  k_fill
  intro X
  refine wpAny_call ?_
  k_dflt cell_enter
  k_steps
  refine' hret _ _ _ _ ?o ?F ?N
  case N => assumption
  case F => assumption
  case o => (repeat' (first | exact .nil | refine .cons _ _ ?_))
def signsL : List PySem.Str := [PySem.Str.ofString "", PySem.Str.ofString "a", PySem.Str.ofString " b", PySem.Str.ofString "é", PySem.Str.ofString "\"", PySem.Str.ofString "\n", PySem.Str.ofString "€ü", PySem.Str.ofString "\\", PySem.Str.ofString "#:", PySem.Str.ofString "\\\\", PySem.Str.ofString "😀"]
theorem signs_ok (w : World) (p : Program) (loose : List PySem.Str) (mean : ExcName → Option Value) (mg mb : PySem.Str → Option Value) (news : List (Addr × Obj))
  (dp un : Nat) (gd : Option (List Code)) (cn : PySem.Str) (cs : Scope) (a' : Addr) (ccd : Value) (cl : List (PySem.Str × Addr)) (outer : List Env) (A₀ : Around) (base h₀ : Heap) (L : Addr) (m : PySem.Str → Option Value) (s : Shared) (Q E : Value → Shared → Prop)
    (B : Below A₀ base outer h₀) (F : Fr h₀ L s.heap m) (N : News h₀ L s.heap news) (T : Top p loose mean mg mb h₀) (hcs : cs.kind = .function) (hd : dp + 1 < recursionLimit) (hu : un + 8 < cLine)
    (hret : ∀ l vs h' tk', StrsAre vs signsL → Fr h₀ L h' m → News h₀ L h' ((l, listOf vs.toArray 0) :: news) → Q (.ref l) { s with heap := h', toks := tk' }) : (Mine.hd.heap_39 w.params).In h₀ →
      wpAny (model PySem.Challenge.rw_ez5014_01.row.prog w) (ktrTop dp un gd cn cs L a' ccd cl outer) (call (.ref 189) []) Q E s := by
  k_fill
  intro X
  refine wpAny_call ?_
  k_dflt cell_enter
  k_steps
  refine' hret _ _ _ _ ?o ?F ?N
  case N => assumption
  case F => assumption
  case o => (repeat' (first | exact .nil | refine .cons _ _ ?_))
end Mine
end
section
theorem Mine.fresh_N1 : True := by
  w_top off
  k_with_none
  trivial
open PySem PySem.W PyProof.Rows PySem.Calls
set_option Elab.async false
set_option maxRecDepth 100000
set_option maxHeartbeats 20000000
namespace Mine
/-- what a round hands the law -/
def RoundOk (x pre : PySem.Str) (i n door : Int) : Prop :=
  x.length ≤ 400 ∧ Plain x ∧ 0 ≤ i ∧ i ≤ 400 ∧ 0 ≤ n ∧ n ≤ 400 ∧ pre.length ≤ 4 ∧ ((door = 0 ∧ n = 4 ∧ pre = PySem.Str.ofString "u") ∨ (door = 1 ∧ n = 8 ∧ pre = PySem.Str.ofString "U") ∨ door = 2 ∨ door = 3)
local macro_rules | `(tactic| k_gentoks) => `(tactic| ((first | (with_reducible show wpAny _ _ _ _ _ (PySem.Shared.mk _ _ _ (HAdd.hAdd _ _) _)) | (with_reducible show wpAny _ _ _ _ _ (PySem.Shared.mk _ _ _ (PySem.Shared.toks _) _))); refine toks_any (fun tk' => ?_)))
local macro_rules | `(tactic| walk_at "subscriptTail") => `(tactic| (k_here; (with_reducible show wpAny _ _ (subscriptTail _ (PySem.Expr.Slice none (some _) none _) (Value.str _ _) (Value.ref _)) _ _ _); (with_reducible rename Fr _ _ _ _ => F'); (with_reducible rename News _ _ _ _ => N'); (refine slice_strN_ns_len (hsz := ?hsz) (s := ⟨_, _, _, _, _⟩) F' N' ?_); (case hsz => (rw [PySem.sizeLine_eq]; omega)); intro h' t' k' F' N' hl'))
local macro_rules | `(tactic| walk_at "subscriptTail") => `(tactic| (k_here; (with_reducible show wpAny _ _ (subscriptTail _ _ (Value.str _ _) (Value.int _ _)) _ _ _); (refine item_str (fitsSsize_of (N := 9223372036854775808) ?k1 ?k2 (Int.le_refl _)) ?k3 ?k4 ?_); (case k1 => exact Int.le_trans (by decide) (fmod_lo _ (by decide))); (case k2 => exact Int.lt_trans (fmod_hi _ (by decide)) (by decide)); (case k3 => exact Int.le_trans (by decide) (fmod_lo _ (by decide))); (case k4 => exact fmod_hi _ (by decide)); intro hl'))
local macro_rules | `(tactic| walk_at "subscriptTail") => `(tactic| (k_here; (with_reducible show wpAny _ _ (subscriptTail _ _ (Value.ref _) (Value.int _ _)) _ _ _); (refine' pick_good ?k1 ?k2 ?k3 ?k4 ?k5 ?k6 ?_; (case k2 => assumption); (case k1 => is_list); (case k3 => exact fmod_lo _ (by decide)); (case k4 => exact fmod_hi _ (by decide)); (case k5 => exact Int.lt_trans (fmod_hi _ (by decide)) (by decide)); (case k6 => decide +kernel)); intro y' t' hy1' hy2'))
local macro_rules | `(tactic| walk_at "binaryOp Add str str") => `(tactic| (k_here; (refine KOpn.add (by simp only [PySem.Str.length_append]; (try kopn_lits); omega) ?_); intro t' k' hl'; clear hl'))
local macro_rules | `(tactic| walk_at "call ref") => `(tactic| (k_here; (first
  | ((with_reducible show wpAny _ _ (call (Value.ref 168) _) _ _ _); refine' four_ok _ _ _ _ _ _ _ _ _ _ _ _ _ _ _ _ _ _ _ _ _ _ _ _ ?kB ?kF ?kN ?kT ?kk ?kd ?ku ?_ ?kX)
  | ((with_reducible show wpAny _ _ (call (Value.ref 175) _) _ _ _); refine' eight_ok _ _ _ _ _ _ _ _ _ _ _ _ _ _ _ _ _ _ _ _ _ _ _ _ ?kB ?kF ?kN ?kT ?kk ?kd ?ku ?_ ?kX)
  | ((with_reducible show wpAny _ _ (call (Value.ref 182) _) _ _ _); refine' past_ok _ _ _ _ _ _ _ _ _ _ _ _ _ _ _ _ _ _ _ _ _ _ _ _ ?kB ?kF ?kN ?kT ?kk ?kd ?ku ?_ ?kX)
  | ((with_reducible show wpAny _ _ (call (Value.ref 189) _) _ _ _); refine' signs_ok _ _ _ _ _ _ _ _ _ _ _ _ _ _ _ _ _ _ _ _ _ _ _ _ ?kB ?kF ?kN ?kT ?kk ?kd ?ku ?_ ?kX)); (case kB => assumption); (case kF => assumption); (case kN => assumption); (case kT => assumption); (case kk => rfl); (case kX => assumption); (case kd => first | omega | (dsimp; omega)); (case ku => first | omega | (dsimp; omega)); intro l' vs' h' tk' hs' F' N'))
local macro_rules | `(tactic| walk_at "subscriptTail Call Name nil nil BinOp ref int") => `(tactic| (k_here; k_dflt (refine kba_turn (value' := PySem.Expr.Name (PySem.Str.ofString "_") ⟨0, 0, 0, 0⟩) (fun _ => rfl) ?_)))
def Mark : Prop := True
theorem round_ok (w : World) (p : Program) (loose : List PySem.Str) (mean : ExcName → Option Value) (mg mb : PySem.Str → Option Value) (news : List (Addr × Obj)) (kind number : Int) (tk tn : Tok)
  (dp un : Nat) (gd : Option (List Code)) (cn : PySem.Str) (cs : Scope) (a' : Addr) (ccd : Value) (cl : List (PySem.Str × Addr)) (outer : List Env) (A₀ : Around) (base h₀ : Heap) (L : Addr) (m : PySem.Str → Option Value) (s : Shared) (Q E : Value → Shared → Prop)
    (B : Below A₀ base outer h₀) (F : Fr h₀ L s.heap m) (N : News h₀ L s.heap news) (T : Top p loose mean mg mb h₀) (hcs : cs.kind = .function)
    (hkind : kind = 0 ∨ kind = 1 ∨ kind = 2 ∨ kind = 3 ∨ kind = 4 ∨ kind = 5 ∨ kind = 6 ∨ kind = 7) (hd : dp + 3 < recursionLimit) (hu : un + 20 < cLine)
    (hret : ∀ tup x pre i n door t1 t2 t3 t4 t5 h' tk' news', (∀ q ∈ news, q ∈ news') → RoundOk x pre i n door → Fr h₀ L h' m → News h₀ L h' ((tup, { cls := .type "tuple", data := .seq #[.str x t1, .int i t2, .int n t3, .str pre t4, .int door t5] }) :: news') → Q (.ref tup) { s with heap := h', toks := tk' }) : (Mine.hd.heap_39 w.params).In h₀ →
      wpAny (model PySem.Challenge.rw_ez5014_01.row.prog w) (ktrTop dp un gd cn cs L a' ccd cl outer) (call (.ref 210) [.int kind tk, .int number tn]) Q E s := by
  k_fill
  intro X
  have hret' : ∀ {tup : Addr} {x pre : PySem.Str} {i n door : Int} {t1 t2 t3 t4 t5 : Tok} {h' : Heap} {tk' : Nat} {news' : List (Addr × Obj)}, Fr h₀ L h' m → News h₀ L h' ((tup, { cls := .type "tuple", data := .seq #[.str x t1, .int i t2, .int n t3, .str pre t4, .int door t5] }) :: news') →
      (∀ q ∈ news, q ∈ news') → RoundOk x pre i n door → Q (.ref tup) { s with heap := h', toks := tk' } := fun F' N' hs ho => hret _ _ _ _ _ _ _ _ _ _ _ _ _ _ hs ho F' N'
  refine wpAny_call ?_
  k_dflt cell_enter
  have hM : Mark := trivial
  k_with "isTrue BoolOp" => (rename Mark => hMk; clear hMk; refine stop_at ?_)
  k_steps
  rcases hkind with rfl | rfl | rfl | rfl | rfl | rfl | rfl | rfl
  all_goals unfold Stop
  all_goals k_steps
  all_goals
    refine hret' (by first | with_reducible assumption | assumption) (by first | with_reducible assumption | assumption) (by intro q hq; (repeat (first | exact hq | apply List.Mem.tail))) ⟨?_, ?_, ?_, ?_, ?_, ?_, ?_, ?_⟩
    · ((try simp only [PySem.Str.length_append]); (try kopn_lits); first | omega | ((try k_fmods); omega))
    · (repeat' (first | with_reducible assumption | with_reducible apply plain_app | with_reducible apply plain_slice | (unfold Plain; decide +kernel)))
    · ((try simp only [PySem.Str.length_append]); (try kopn_lits); first | omega | ((try k_fmods); omega))
    · ((try simp only [PySem.Str.length_append]); (try kopn_lits); first | omega | ((try k_fmods); omega))
    · ((try simp only [PySem.Str.length_append]); (try kopn_lits); first | omega | ((try k_fmods); omega))
    · ((try simp only [PySem.Str.length_append]); (try kopn_lits); first | omega | ((try k_fmods); omega))
    · ((try simp only [PySem.Str.length_append]); (try kopn_lits); first | omega | ((try k_fmods); omega))
    · first | exact .inl ⟨rfl, rfl, rfl⟩ | exact .inr (.inl ⟨rfl, rfl, rfl⟩) | exact .inr (.inr (.inl rfl)) | exact .inr (.inr (.inr rfl)) | (refine .inr (.inr ?_); (try k_fmods); omega)
end Mine
end
section
open PySem PySem.W PyProof.Rows PySem.Calls
set_option Elab.async false
set_option maxRecDepth 100000
set_option maxHeartbeats 1000000
namespace Mine
def uD (door : Int) : Nat := if door = 0 ∨ door = 2 then 117 else 85
def kD (door : Int) : Nat := if door = 0 ∨ door = 2 then 4 else 8
def OutR (x doc : PySem.Str) (line i n door : Int) (pre : PySem.Str) (vs : List Value) : Prop := OutIs x doc line i.toNat n.toNat (uD door) (kD door) pre vs
section
variable {w : World} {p : Program} {loose : List PySem.Str} {mean : ExcName → Option Value} {mg mb : PySem.Str → Option Value} {news : List (Addr × Obj)} {x doc pre : PySem.Str} {tx td tp ti tn to tli : Tok} {line i n door : Int} {sx : Addr}
  {dp un : Nat} {gd : Option (List Code)} {cn : PySem.Str} {cs : Scope} {a' : Addr} {ccd : Value} {A₀ : Around} {base h₀ : Heap} {L : Addr} {m : PySem.Str → Option Value} {s : Shared} {Q E : Value → Shared → Prop}
theorem due_any {cl : List (PySem.Str × Addr)} {outer : List Env} (hR : RoundOk x pre i n door) (B : Below A₀ base outer h₀) (F : Fr h₀ L s.heap m) (N : News h₀ L s.heap news) (T : Top p loose mean mg mb h₀) (X : (Mine.hd.heap_39 w.params).In h₀) (hcs : cs.kind = .function)
    (hd : dp + 5 < recursionLimit) (hu : un + 30 < cLine)
    (hret : ∀ l vs h' tk', OutR x doc line i n door pre vs → Fr h₀ L h' m → News h₀ L h' ((l, listOf vs.toArray 0) :: news) → Q (.ref l) { s with heap := h', toks := tk' }) :
      wpAny (model PySem.Challenge.rw_ez5014_01.row.prog w) (ktrTop dp un gd cn cs L a' ccd cl outer) (call (.ref 217) [.str doc td, .int line tli, .str x tx, .int i ti, .int n tn, .str pre tp, .int door to]) Q E s := by
  obtain ⟨h1, h2, h3, h4, h5, h6, h7, h8⟩ := hR
  obtain ⟨i', rfl⟩ := Int.eq_ofNat_of_zero_le h3
  obtain ⟨n', rfl⟩ := Int.eq_ofNat_of_zero_le h5
  rcases h8 with ⟨rfl, _, _⟩ | ⟨rfl, _, _⟩ | rfl | rfl
  · exact due_0 w p loose mean mg mb news x doc pre tx td tp ti tn to tli line i' n' dp un gd cn cs a' ccd cl outer A₀ base h₀ L m s Q E B F N T hcs hd hu h1 h2 h7 (fun l vs h' tk' o F' N' => hret l vs h' tk' o F' N') X
  · exact due_1 w p loose mean mg mb news x doc pre tx td tp ti tn to tli line i' n' dp un gd cn cs a' ccd cl outer A₀ base h₀ L m s Q E B F N T hcs hd hu h1 h2 h7 (fun l vs h' tk' o F' N' => hret l vs h' tk' o F' N') X
  · exact due_2 w p loose mean mg mb news x doc pre tx td tp ti tn to tli line i' n' dp un gd cn cs a' ccd cl outer A₀ base h₀ L m s Q E B F N T hcs hd hu h1 h2 h7 (fun l vs h' tk' o F' N' => hret l vs h' tk' o F' N') X
  · exact due_3 w p loose mean mg mb news x doc pre tx td tp ti tn to tli line i' n' dp un gd cn cs a' ccd cl outer A₀ base h₀ L m s Q E B F N T hcs hd hu h1 h2 h7 (fun l vs h' tk' o F' N' => hret l vs h' tk' o F' N') X
theorem call_any (hR : RoundOk x pre i n door) (B : Below A₀ base [] h₀) (F : Fr h₀ L s.heap m) (N : News h₀ L s.heap news) (T : Top p loose mean mg mb h₀) (TB : Top p loose mean mg mb base) (X : (Mine.hd.heap_39 w.params).In h₀) (XB : (Mine.hd.heap_39 w.params).In base) (R : ReaderAt news sx doc) (hcs : cs.kind = .function)
    (hd : dp + 8 < recursionLimit) (hu : un + 40 < cLine)
    (hret : ∀ l vs c h' tk' news', (∀ q ∈ news, q ∈ news') → OutR x doc line i n door pre vs → Fr h₀ L h' m → News h₀ L h' ((l, listOf vs.toArray c) :: news') → Q (.ref l) { s with heap := h', toks := tk' }) :
      wpAny (model PySem.Challenge.rw_ez5014_01.row.prog w) (ktrTop dp un gd cn cs L a' ccd [] []) (call (.ref 224) [.ref sx, .str x tx, .int i ti, .int line tli, .int n tn, .str pre tp, .int door to]) Q E s := by
  obtain ⟨h1, h2, h3, h4, h5, h6, h7, h8⟩ := hR
  obtain ⟨i', rfl⟩ := Int.eq_ofNat_of_zero_le h3
  obtain ⟨n', rfl⟩ := Int.eq_ofNat_of_zero_le h5
  rcases h8 with ⟨rfl, e, rfl⟩ | ⟨rfl, e, rfl⟩ | rfl | rfl
  · obtain rfl : n' = 4 := by omega
    exact call_0 w p loose mean mg mb news x doc _ tx tp ti tn to tli line sx i' 4 dp un gd cn cs a' ccd A₀ base h₀ L m s Q E B F N T TB hcs hd hu R h1 h2 (by omega) (fun l vs c h' tk' ns hs o F' N' => hret l vs c h' tk' ns hs o F' N') X XB
  · obtain rfl : n' = 8 := by omega
    exact call_1 w p loose mean mg mb news x doc _ tx tp ti tn to tli line sx i' 8 dp un gd cn cs a' ccd A₀ base h₀ L m s Q E B F N T TB hcs hd hu R h1 h2 (by omega) (fun l vs c h' tk' ns hs o F' N' => hret l vs c h' tk' ns hs o F' N') X XB
  · exact call_2 w p loose mean mg mb news x doc pre tx tp ti tn to tli line sx i' n' dp un gd cn cs a' ccd A₀ base h₀ L m s Q E B F N T TB hcs hd hu R h1 h2 (by omega) (by omega) h7 (fun l vs c h' tk' ns hs o F' N' => hret l vs c h' tk' ns hs o F' N') X XB
  · exact call_3 w p loose mean mg mb news x doc pre tx tp ti tn to tli line sx i' n' dp un gd cn cs a' ccd A₀ base h₀ L m s Q E B F N T TB hcs hd hu R h1 h2 (by omega) (by omega) h7 (fun l vs c h' tk' ns hs o F' N' => hret l vs c h' tk' ns hs o F' N') X XB
end
end Mine
end
section
open PySem PySem.W PyProof.Rows PySem.Calls
set_option Elab.async false
set_option maxRecDepth 100000
set_option maxHeartbeats 1000000
namespace Mine
theorem in_doc {prog : Program} {w : World} {A : Around} {E : Value → Shared → Prop} {s : Shared} {t u : Tok} {Q : Value → Shared → Prop} (h : Q (.bool true) s) :
    wpAny (model prog w) A (compareOp .In (.str (PySem.Str.ofString ":") t) (.str (PySem.Str.ofString "d:oc") u)) Q E s := by
  refine in_str ?_
  rw [show (!(Builtin.Str.occurrences (PySem.Str.ofString "d:oc") (PySem.Str.ofString ":") 0 (PySem.Str.ofString "d:oc").length 1).isEmpty) = true from by decide +kernel]
  exact h
theorem reader_of {h₀ h : Heap} {L sx sd : Addr} {m : PySem.Str → Option Value} {news : List (Addr × Obj)} {es : List DictEntry} {n : Nat} {doc : PySem.Str} {t : Tok} (name : PySem.Str) (_F : Fr h₀ L h m) (_N : News h₀ L h news) (_hm : m name = some (.ref sx))
    (m1 : (sx, instObj 137 sd) ∈ news) (m2 : (sd, dictOf es n) ∈ news) (h1 : getL "_thisDoc" es = some (some (.str doc t))) (h2 : getL "_unicodeEscape" es = some none) (h3 : getL "uEscape" es = some none) (h4 : getL "UEscape" es = some none) : ReaderAt news sx doc :=
  ⟨_, _, _, _, _, m1, m2, rfl, rfl, rfl, h1, h2, h3, h4⟩
theorem outR_twins {x doc pre : PySem.Str} {line i n door : Int} {vs us : List Value} (h1 : OutR x doc line i n door pre vs) (h2 : OutR x doc line i n door pre us) : Twins vs us := out_twins h1 h2
section
variable {w : World} {p : Program} {loose : List PySem.Str} {mean : ExcName → Option Value} {mg mb : PySem.Str → Option Value} {news : List (Addr × Obj)} {x doc pre : PySem.Str} {tx td tp ti tn to tli : Tok} {line i n door kind number : Int} {sx : Addr}
  {dp un : Nat} {gd : Option (List Code)} {cn : PySem.Str} {cs : Scope} {a' : Addr} {ccd : Value} {A₀ : Around} {base h₀ : Heap} {L : Addr} {m : PySem.Str → Option Value} {s : Shared} {Q E : Value → Shared → Prop}
theorem round_use {cl : List (PySem.Str × Addr)} {outer : List Env} (B : Below A₀ base outer h₀) (F : Fr h₀ L s.heap m) (N : News h₀ L s.heap news) (T : Top p loose mean mg mb h₀) (X : (Mine.hd.heap_39 w.params).In h₀) (hcs : cs.kind = .function)
    (hk0 : 0 ≤ kind) (hk1 : kind < 8) (hd : dp + 3 < recursionLimit) (hu : un + 20 < cLine)
    (hret : ∀ tup x pre i n door t1 t2 t3 t4 t5 h' tk', RoundOk x pre i n door → Fr h₀ L h' m → News h₀ L h' ((tup, { cls := .type "tuple", data := .seq #[.str x t1, .int i t2, .int n t3, .str pre t4, .int door t5] }) :: news) → Q (.ref tup) { s with heap := h', toks := tk' }) :
      wpAny (model PySem.Challenge.rw_ez5014_01.row.prog w) (ktrTop dp un gd cn cs L a' ccd cl outer) (call (.ref 210) [.int kind ti, .int number tn]) Q E s :=
  round_ok w p loose mean mg mb news kind number ti tn dp un gd cn cs a' ccd cl outer A₀ base h₀ L m s Q E B F N T hcs (by omega) hd hu
    (fun tup x pre i n door t1 t2 t3 t4 t5 h' tk' news' hs ho F' N' => hret tup x pre i n door t1 t2 t3 t4 t5 h' tk' ho F' (cb_drop N' fun q hq => by
      rcases List.mem_cons.mp hq with rfl | hq
      · exact .head _
      · exact .tail _ (hs q hq))) X
theorem call_use (hR : RoundOk x pre i n door) (B : Below A₀ base [] h₀) (F : Fr h₀ L s.heap m) (N : News h₀ L s.heap news) (T : Top p loose mean mg mb h₀) (TB : Top p loose mean mg mb base) (X : (Mine.hd.heap_39 w.params).In h₀) (XB : (Mine.hd.heap_39 w.params).In base) (R : ReaderAt news sx doc) (hcs : cs.kind = .function)
    (hd : dp + 8 < recursionLimit) (hu : un + 40 < cLine)
    (hret : ∀ l vs c h' tk', OutR x doc line i n door pre vs → Fr h₀ L h' m → News h₀ L h' ((l, listOf vs.toArray c) :: news) → Q (.ref l) { s with heap := h', toks := tk' }) :
      wpAny (model PySem.Challenge.rw_ez5014_01.row.prog w) (ktrTop dp un gd cn cs L a' ccd [] []) (call (.ref 224) [.ref sx, .str x tx, .int i ti, .int line tli, .int n tn, .str pre tp, .int door to]) Q E s :=
  call_any hR B F N T TB X XB R hcs hd hu (fun l vs c h' tk' news' hs o F' N' => hret l vs c h' tk' o F' (cb_drop N' fun q hq => by
      rcases List.mem_cons.mp hq with rfl | hq
      · exact .head _
      · exact .tail _ (hs q hq)))
end
end Mine
end
section
local macro_rules | `(tactic| walk_at "no such word") => `(tactic| fail)
local macro_rules | `(tactic| walk_at "no such word") => `(tactic| fail)
local macro_rules | `(tactic| walk_at "no such word") => `(tactic| fail)
local macro_rules | `(tactic| walk_at "no such word") => `(tactic| fail)
theorem Mine.fresh_Q1 : True := by
  w_top off
  k_with_none
  trivial
open PySem PySem.W PyProof.Rows PySem.Calls
set_option Elab.async false
set_option maxRecDepth 100000
set_option maxHeartbeats 4000000
namespace Mine
theorem keep_two {g h : Heap} {L : Addr} {news' news : List (Addr × Obj)} {a b : Addr} {oa ob : Obj} (N : News g L h news') (ha : (a, oa) ∈ news') (hb : (b, ob) ∈ news') (hs : ∀ q ∈ news, q ∈ news') : News g L h ((a, oa) :: (b, ob) :: news) := fun q hq => by
  rcases List.mem_cons.mp hq with rfl | hq
  · exact N _ ha
  rcases List.mem_cons.mp hq with rfl | hq
  · exact N _ hb
  · exact N _ (hs q hq)
/-- the fields of a reader, as its birth leaves them -/
def readerE (P : Params) (doc : PySem.Str) (td : Tok) (bd kw an va pa sd bu : Value) (lines start ks : Int) (k1 k2 k3 k4 k5 k6 k7 k8 k9 k10 k11 k12 k13 k14 k15 tl ts tg tk : Tok) : List DictEntry := [
  { hash := PyData.keyHash P "_bindings", key := .str "_bindings" k1, val := bd },
  { hash := PyData.keyHash P "_store", key := .str "_store" k2, val := .none },
  { hash := PyData.keyHash P "_thisDoc", key := .str "_thisDoc" k3, val := .str doc td },
  { hash := PyData.keyHash P "lines", key := .str "lines" k4, val := .int lines tl },
  { hash := PyData.keyHash P "startOfLine", key := .str "startOfLine" k5, val := .int start ts },
  { hash := PyData.keyHash P "_genPrefix", key := .str "_genPrefix" k6, val := .str (PySem.Str.ofString "") tg },
  { hash := PyData.keyHash P "keywords", key := .str "keywords" k7, val := kw },
  { hash := PyData.keyHash P "keywordsSet", key := .str "keywordsSet" k8, val := .int ks tk },
  { hash := PyData.keyHash P "_anonymousNodes", key := .str "_anonymousNodes" k9, val := an },
  { hash := PyData.keyHash P "_variables", key := .str "_variables" k10, val := va },
  { hash := PyData.keyHash P "_parentVariables", key := .str "_parentVariables" k11, val := pa },
  { hash := PyData.keyHash P "_reason", key := .str "_reason" k12, val := .none },
  { hash := PyData.keyHash P "turtle", key := .str "turtle" k13, val := .bool false },
  { hash := PyData.keyHash P "string_delimiters", key := .str "string_delimiters" k14, val := sd },
  { hash := PyData.keyHash P "_baseURI", key := .str "_baseURI" k15, val := bu }]
local macro_rules | `(tactic| walk_at "compareOp In str str") => `(tactic| (k_here; refine in_doc ?_))
theorem reader_0 (w : World) (p : Program) (loose : List PySem.Str) (mean : ExcName → Option Value) (mg mb : PySem.Str → Option Value) (news : List (Addr × Obj))
  (dp un : Nat) (gd : Option (List Code)) (cn : PySem.Str) (cs : Scope) (a' : Addr) (ccd : Value) (cl : List (PySem.Str × Addr)) (outer : List Env) (A₀ : Around) (base h₀ : Heap) (L : Addr) (m : PySem.Str → Option Value) (s : Shared) (Q E : Value → Shared → Prop)
    (B : Below A₀ base outer h₀) (F : Fr h₀ L s.heap m) (N : News h₀ L s.heap news) (T : Top p loose mean mg mb h₀) (hcs : cs.kind = .function) (hd : dp + 3 < recursionLimit) (hu : un + 20 < cLine)
    (hret : ∀ {x d : Addr} {td : Tok} {bd kw an va pa sd bu : Value} {k1 k2 k3 k4 k5 k6 k7 k8 k9 k10 k11 k12 k13 k14 k15 tl ts tg tk : Tok} {h' : Heap} {tk' : Nat}, Fr h₀ L h' m → News h₀ L h' ((x, instObj 137 d) :: (d, dictOf (readerE w.params (PySem.Str.ofString "") td bd kw an va pa sd bu 0 0 0 k1 k2 k3 k4 k5 k6 k7 k8 k9 k10 k11 k12 k13 k14 k15 tl ts tg tk) 15) :: news) → (∀ p ∈ news, p.1 < d) → d < x → Q (.ref x) { s with heap := h', toks := tk' }) : (Mine.hd.heap_39 w.params).In h₀ →
      wpAny (model PySem.Challenge.rw_ez5014_01.row.prog w) (ktrTop dp un gd cn cs L a' ccd cl outer) (call (.ref 137) [.none]) Q E s := by
  k_fill
  intro X
  refine' call_cls ?k1 ?k2 ?k3 ?k4 ?k5 ?k6 ?_
  case k1 => assumption
  case k2 => assumption
  case k3 => assumption
  case k4 => k_is
  case k5 => k_is
  case k6 => k_is
  k_whole
  intro x' d' h' F' N' lA lB
  have l1 := lA
  have l2 := lB
  (try k_lt l1)
  (try k_lt2 l2)
  (try k_sweep)
  refine' code_def ?k1 ?k2 ?k3 ?k4 ?k5 ?kA ?kF ?kK ?k6 ?k7 ?k8 ?k9 ?kB ?_ ?c2 ?c3 ?c4 ?c5
  case kA => exact rfl
  case kF => exact rfl
  case kK => assumption
  case k1 => k_asm
  case k2 => k_asm
  case k3 => k_asm
  case k4 => k_asm
  case k5 => k_asm
  case k6 => k_is
  case k7 => k_is
  case k8 => (show dp + 1 < recursionLimit); omega
  case k9 => exact binds_K (by k_in) rfl (by k_is) rfl rfl rfl
  case c5 => decide
  case kB => exact locs rfl
  case c2 => exact rfl
  case c3 => exact rfl
  case c4 => exact rfl
  k_whole
  intro g' L' h' FG' F0 N' B' X' T'
  have F' : Fr g' L' h' (fun y => List.lookup y [("turtle", Value.bool false), ("why", Value.none), ("genPrefix", Value.str (PySem.Str.ofString "") _), ("baseURI", Value.none), ("thisDoc", Value.str (PySem.Str.ofString "") _), ("openFormula", Value.none), ("store", Value.none), ("self", Value.ref x')]) := F0
  clear F0
  (try dsimp only)
  (try k_lift B')
  k_steps
  rename News h₀ L _ _ => N9
  exact hret (by assumption) (keep_two N9 (by (repeat (first | exact List.Mem.head _ | apply List.Mem.tail))) (by (repeat (first | exact List.Mem.head _ | apply List.Mem.tail))) (by intro q hq; (repeat (first | exact hq | apply List.Mem.tail)))) lA lB
theorem reader_1 (w : World) (p : Program) (loose : List PySem.Str) (mean : ExcName → Option Value) (mg mb : PySem.Str → Option Value) (news : List (Addr × Obj)) (t0 : Tok)
  (dp un : Nat) (gd : Option (List Code)) (cn : PySem.Str) (cs : Scope) (a' : Addr) (ccd : Value) (cl : List (PySem.Str × Addr)) (outer : List Env) (A₀ : Around) (base h₀ : Heap) (L : Addr) (m : PySem.Str → Option Value) (s : Shared) (Q E : Value → Shared → Prop)
    (B : Below A₀ base outer h₀) (F : Fr h₀ L s.heap m) (N : News h₀ L s.heap news) (T : Top p loose mean mg mb h₀) (hcs : cs.kind = .function) (hd : dp + 3 < recursionLimit) (hu : un + 20 < cLine)
    (hret : ∀ {x d : Addr} {td : Tok} {bd kw an va pa sd bu : Value} {k1 k2 k3 k4 k5 k6 k7 k8 k9 k10 k11 k12 k13 k14 k15 tl ts tg tk : Tok} {h' : Heap} {tk' : Nat}, Fr h₀ L h' m → News h₀ L h' ((x, instObj 137 d) :: (d, dictOf (readerE w.params (PySem.Str.ofString "d:oc") td bd kw an va pa sd bu 0 0 0 k1 k2 k3 k4 k5 k6 k7 k8 k9 k10 k11 k12 k13 k14 k15 tl ts tg tk) 15) :: news) → (∀ p ∈ news, p.1 < d) → d < x → Q (.ref x) { s with heap := h', toks := tk' }) : (Mine.hd.heap_39 w.params).In h₀ →
      wpAny (model PySem.Challenge.rw_ez5014_01.row.prog w) (ktrTop dp un gd cn cs L a' ccd cl outer) (call (.ref 137) [.none, .none, .str (PySem.Str.ofString "d:oc") t0]) Q E s := by
  k_fill
  intro X
  refine' call_cls ?k1 ?k2 ?k3 ?k4 ?k5 ?k6 ?_
  case k1 => assumption
  case k2 => assumption
  case k3 => assumption
  case k4 => k_is
  case k5 => k_is
  case k6 => k_is
  k_whole
  intro x' d' h' F' N' lA lB
  have l1 := lA
  have l2 := lB
  (try k_lt l1)
  (try k_lt2 l2)
  (try k_sweep)
  refine' code_def ?k1 ?k2 ?k3 ?k4 ?k5 ?kA ?kF ?kK ?k6 ?k7 ?k8 ?k9 ?kB ?_ ?c2 ?c3 ?c4 ?c5
  case kA => exact rfl
  case kF => exact rfl
  case kK => assumption
  case k1 => k_asm
  case k2 => k_asm
  case k3 => k_asm
  case k4 => k_asm
  case k5 => k_asm
  case k6 => k_is
  case k7 => k_is
  case k8 => (show dp + 1 < recursionLimit); omega
  case k9 => exact binds_K (by k_in) rfl (by k_is) rfl rfl rfl
  case c5 => decide
  case kB => exact locs rfl
  case c2 => exact rfl
  case c3 => exact rfl
  case c4 => exact rfl
  k_whole
  intro g' L' h' FG' F0 N' B' X' T'
  have F' : Fr g' L' h' (fun y => List.lookup y [("turtle", Value.bool false), ("why", Value.none), ("genPrefix", Value.str (PySem.Str.ofString "") _), ("baseURI", Value.none), ("thisDoc", Value.str (PySem.Str.ofString "d:oc") _), ("openFormula", Value.none), ("store", Value.none), ("self", Value.ref x')]) := F0
  clear F0
  (try dsimp only)
  (try k_lift B')
  k_steps
  rename News h₀ L _ _ => N9
  exact hret (by assumption) (keep_two N9 (by (repeat (first | exact List.Mem.head _ | apply List.Mem.tail))) (by (repeat (first | exact List.Mem.head _ | apply List.Mem.tail))) (by intro q hq; (repeat (first | exact hq | apply List.Mem.tail)))) lA lB
end Mine
end
section
open PySem PySem.W PyProof.Rows PySem.Calls
set_option Elab.async false
set_option maxRecDepth 100000
set_option maxHeartbeats 1000000
namespace Mine
/-- the numbers that the law counts on: the script's own, or the list of one nought -/
def Nums (h₀ : Heap) (own : List (Addr × Obj)) (r : Addr) (ns : List Int) : Prop :=
  ∃ vs, (h₀.IsList r vs.toArray ∨ ∃ c, (r, listOf vs.toArray c) ∈ own) ∧ IntsAre vs ns ∧ 0 < ns.length ∧ ns.length ≤ 63
def NumsEnd (h₀ : Heap) (L : Addr) (m : PySem.Str → Option Value) (s : Shared) (v : Value) (s' : Shared) : Prop :=
  ∃ r ns own, v = .ref r ∧ Nums h₀ own r ns ∧ Fr h₀ L s'.heap m ∧ News h₀ L s'.heap own ∧ s' = { s with heap := s'.heap, toks := s'.toks }
section
variable {prog : Program} {w : World} {A : Around} {E : Value → Shared → Prop} {s : Shared} {Q : Value → Shared → Prop} {h₀ : Heap} {L r : Addr} {m : PySem.Str → Option Value} {own news : List (Addr × Obj)} {ns : List Int}
theorem nums_join {t : Sem Value} (_F : Fr h₀ L s.heap m)
    (J : ∀ r ns own h' tk', Nums h₀ own r ns → Fr h₀ L h' m → News h₀ L h' own → Q (.ref r) { s with heap := h', toks := tk' })
    (W : wpAny (model prog w) A t (NumsEnd h₀ L m s) E s) : wpAny (model prog w) A t Q E s := by
  refine wpAny_mono W ?_ (fun _ _ h => h)
  rintro v s' ⟨r, ns, own, rfl, hn, hF, hN, e⟩
  have := J r ns own s'.heap s'.toks hn hF hN
  rwa [← e] at this
theorem Nums.list (hn : Nums h₀ own r ns) (F : Fr h₀ L s.heap m) (N : News h₀ L s.heap news) (hs : ∀ q ∈ own, q ∈ news) : ∃ vs, s.heap.IsList r vs.toArray ∧ IntsAre vs ns := by
  obtain ⟨vs, h | ⟨c, h⟩, hI, _, _⟩ := hn
  · exact ⟨vs, F.lst h, hI⟩
  · exact ⟨vs, News.isList N (hs _ h), hI⟩
theorem nums_len (hn : Nums h₀ own r ns) (F : Fr h₀ L s.heap m) (N : News h₀ L s.heap news) (hs : ∀ q ∈ own, q ∈ news)
    (h : 0 < (ns.length : Int) → (ns.length : Int) ≤ 63 → Q (.int (ns.length : Nat) (s.toks + 1)) { s with toks := s.toks + 1 + 1 }) : wpAny (model prog w) A (call (.builtin "len") [.ref r]) Q E s := by
  obtain ⟨vs, hl, hI⟩ := hn.list F N hs
  obtain ⟨_, _, _, h1, h2⟩ := hn
  exact len_ints_fit hl hI (by omega) (h (by omega) (by omega))
theorem nums_item {value slice : PySem.Expr} {k : Int} {u : Tok} (hn : Nums h₀ own r ns) (F : Fr h₀ L s.heap m) (N : News h₀ L s.heap news) (hs : ∀ q ∈ own, q ∈ news)
    (h0 : 0 ≤ k) (h1 : k < ns.length) (h : ∀ y t, Q (.int y t) s)
    (hsub : subscripted slice false (.ref r) (.int k u) = operate [.ref r, .int k u] (getItem (.ref r) (.int k u)) := by with_unfolding_all rfl) :
    wpAny (model prog w) A (subscriptTail value slice (.ref r) (.int k u)) Q E s := by
  obtain ⟨vs, hl, hI⟩ := hn.list F N hs
  obtain ⟨_, _, _, h2, h3⟩ := hn
  exact item_anyK hl hI h0 h1 (by omega) (fun t => h _ t) hsub
theorem reader_more1 {g h : Heap} {a : Addr × Obj} {sx : Addr} {doc : PySem.Str} (_N : News g L h (a :: news)) (R : ReaderAt news sx doc) : ReaderAt (a :: news) sx doc := R.more (fun _ hq => .tail _ hq)
end
end Mine
end
section
open PySem PySem.W PyProof.Rows PySem.Calls PySem.SeqAt
set_option Elab.async false
set_option maxRecDepth 100000
set_option maxHeartbeats 1000000
namespace Mine
/-- what the law's last lines ask of four figures -/
structure FigOk (y : PySem.Str) : Prop where
  len : y.length = 4
  pl : Plain y
  lo : 0 ≤ lawVal 0 y.cps.toList
  hi : lawVal 0 y.cps.toList ≤ 1114111
  one : turnOf 117 4 (PySem.Str.ofString "\\" ++ PySem.Str.ofString "u" ++ winOf (PySem.Str.ofString "\\u005cu" ++ y) 2 9).cps 0 = some (PySem.Str.ofString "\\u" ++ y).cps.toList
  two : turnOf 117 4 (PySem.Str.ofString "\\" ++ PySem.Str.ofString "u" ++ winOf (PySem.Str.ofString "\\u" ++ y) 2 4).cps 0 = some [(lawVal 0 y.cps.toList).toNat]
theorem fig_ok : ∀ y ∈ fourL, FigOk y := by
  intro y hy
  simp only [fourL, List.mem_cons, List.not_mem_nil, or_false] at hy
  rcases hy with rfl | rfl | rfl | rfl | rfl | rfl | rfl
  all_goals exact ⟨by decide +kernel, by unfold Plain; decide +kernel, by decide +kernel, by decide +kernel, by decide +kernel, by decide +kernel⟩
theorem pick_fig {prog : Program} {w : World} {A : Around} {E : Value → Shared → Prop} {s : Shared} {value slice : PySem.Expr} {a : Addr} {l : List Value} {k : Int} {u : Tok} {Q : Value → Shared → Prop} (hl : s.heap.IsList a l.toArray) (hi : StrsAre l fourL)
    (h0 : 0 ≤ k) (hk : k < 7) (h : ∀ y t', FigOk y → Q (.str y t') s)
    (hs : subscripted slice false (.ref a) (.int k u) = operate [.ref a, .int k u] (getItem (.ref a) (.int k u)) := by with_unfolding_all rfl) (hg : ∀ r, letTemporaryGo value (.ref a) r = pure () := by intro _; with_unfolding_all rfl) :
    wpAny (model prog w) A (subscriptTail value slice (.ref a) (.int k u)) Q E s := by
  have hn : fourL.length = 7 := rfl
  refine item_strsA hl hi h0 (by omega) (by omega) (fun t' => ?_) hs hg
  have hm : fourL.getD k.toNat PySem.Str.empty ∈ fourL := by
    rw [List.getD_eq_getElem?_getD, List.getElem?_eq_getElem (show k.toNat < fourL.length by omega)]
    exact List.getElem_mem _
  exact h _ t' (fig_ok _ hm)
theorem ne_tups {prog : Program} {w : World} {A : Around} {E : Value → Shared → Prop} {s : Shared} {a b : Addr} {as bs : List Value} {Q : Value → Shared → Prop} (ha : s.heap.get? a = some (tupO as)) (hb : s.heap.get? b = some (tupO bs)) (ht : Twins as bs) (hu : A.units + 20 < cLine) (h : Q (.bool false) s) :
    wpAny (model prog w) A (compareOp .NotEq (.ref a) (.ref b)) Q E s := by
  have hsz : as.toArray.size = bs.toArray.size := by simpa using ht.len
  show wpAny _ _ (richCompare .NotEq (.ref a) (.ref b)) _ _ _
  refine RcNeAt.tuples (e := fun _ => true) ⟨_, ha, rfl, _, rfl⟩ ⟨_, hb, rfl, _, rfl⟩ (by omega) (fun j h1 h2 => ?_) prog w E Q ?_
  · have := ht.at j (by simpa using h1) (by simpa using h2)
    simpa using this.eq A.in1 s
  · have e : (!((List.range (min as.toArray.size bs.toArray.size)).all (fun _ => true) && as.toArray.size == bs.toArray.size)) = false := by rw [hsz]; simp
    rw [e]
    exact h
theorem eq_tups {prog : Program} {w : World} {A : Around} {E : Value → Shared → Prop} {s : Shared} {a b : Addr} {as bs : List Value} {Q : Value → Shared → Prop} (ha : s.heap.get? a = some (tupO as)) (hb : s.heap.get? b = some (tupO bs)) (ht : Twins as bs) (hu : A.units + 20 < cLine) (h : Q (.bool true) s) :
    wpAny (model prog w) A (compareOp .Eq (.ref a) (.ref b)) Q E s := by
  have hsz : as.toArray.size = bs.toArray.size := by simpa using ht.len
  show wpAny _ _ (richCompare .Eq (.ref a) (.ref b)) _ _ _
  refine RcAt.tuples (e := fun _ => true) ⟨_, ha, rfl, _, rfl⟩ ⟨_, hb, rfl, _, rfl⟩ (by omega) (fun j h1 h2 => ?_) prog w E Q ?_
  · have := ht.at j (by simpa using h1) (by simpa using h2)
    simpa using this.eq A.in1 s
  · have e : ((List.range (min as.toArray.size bs.toArray.size)).all (fun _ => true) && as.toArray.size == bs.toArray.size) = true := by rw [hsz]; simp
    rw [e]
    exact h
theorem len_fig {y : PySem.Str} (h : FigOk y) : (PySem.Str.ofString "\\u005cu" ++ y).length = 11 ∧ (PySem.Str.ofString "\\u" ++ y).length = 6 := by
  have e1 : (PySem.Str.ofString "\\u005cu").length = 7 := rfl
  have e2 : (PySem.Str.ofString "\\u").length = 2 := rfl
  rw [PySem.Str.length_append, PySem.Str.length_append, h.len, e1, e2]
  exact ⟨rfl, rfl⟩
section
variable {w : World} {p : Program} {loose : List PySem.Str} {mean : ExcName → Option Value} {mg mb : PySem.Str → Option Value} {news : List (Addr × Obj)} {x y doc : PySem.Str} {tx ti tn tp : Tok} {sx : Addr} {line : Value}
  {dp un : Nat} {gd : Option (List Code)} {cn : PySem.Str} {cs : Scope} {a' : Addr} {ccd : Value} {A₀ : Around} {base h₀ : Heap} {L : Addr} {m : PySem.Str → Option Value} {s : Shared} {Q E : Value → Shared → Prop}
theorem esc_a (B : Below A₀ base [] h₀) (F : Fr h₀ L s.heap m) (N : News h₀ L s.heap news) (T : Top p loose mean mg mb h₀) (TB : Top p loose mean mg mb base) (X : (Mine.hd.heap_39 w.params).In h₀) (XB : (Mine.hd.heap_39 w.params).In base) (hcs : cs.kind = .function)
    (hd : dp + 4 < recursionLimit) (hu : un + 20 < cLine) (R : ReaderAt news sx doc) (hy : FigOk y)
    (hret : ∀ tup t1 t2 h' tk', Fr h₀ L h' m → News h₀ L h' ((tup, tupO [.int 11 t1, .str (PySem.Str.ofString "\\u" ++ y) t2]) :: news) → Q (.ref tup) { s with heap := h', toks := tk' }) :
      wpAny (model PySem.Challenge.rw_ez5014_01.row.prog w) (ktrTop dp un gd cn cs L a' ccd [] []) (call (.ref 113) [.ref sx, .str (PySem.Str.ofString "\\u005cu" ++ y) tx, .int 2 ti, line, .ref 50, .int 9 tn, .str (PySem.Str.ofString "u") tp]) Q E s := by
  have hl := (len_fig hy).1
  obtain ⟨h1, h2, h3, h4, h5, h6⟩ := hy
  refine esc_all w p loose mean mg mb news _ tx sx doc 2 9 ti tn line 50 49 117 4 (PySem.Str.ofString "u") tp dp un gd cn cs a' ccd [] [] A₀ base h₀ L m s Q E B F N T TB (ktsDicts_nil) hcs hd hu R (pat4 w X) ⟨_, X 50 _ rfl, rfl⟩ (by decide) (by decide) (by omega) (plain_app (by unfold Plain; decide +kernel) h2) (by decide) (by decide) (by decide) ?_ ?_ X XB
  · intro why ctx g1 G e d od news' h' tk' _ _ _ _ _ _ _ hw
    rcases hw with ⟨hw, _⟩ | ⟨_, hw, _⟩
    · omega
    · rw [h5] at hw; cases hw
  · intro _ r hr tup t1 t2 h' tk' F' N'
    rw [h5] at hr
    cases hr
    exact hret tup t1 t2 h' tk' F' N'
theorem esc_b (B : Below A₀ base [] h₀) (F : Fr h₀ L s.heap m) (N : News h₀ L s.heap news) (T : Top p loose mean mg mb h₀) (TB : Top p loose mean mg mb base) (X : (Mine.hd.heap_39 w.params).In h₀) (XB : (Mine.hd.heap_39 w.params).In base) (hcs : cs.kind = .function)
    (hd : dp + 4 < recursionLimit) (hu : un + 20 < cLine) (R : ReaderAt news sx doc) (hy : FigOk y)
    (hret : ∀ tup t1 t2 h' tk', Fr h₀ L h' m → News h₀ L h' ((tup, tupO [.int 6 t1, .str ⟨#[(lawVal 0 y.cps.toList).toNat]⟩ t2]) :: news) → Q (.ref tup) { s with heap := h', toks := tk' }) :
      wpAny (model PySem.Challenge.rw_ez5014_01.row.prog w) (ktrTop dp un gd cn cs L a' ccd [] []) (call (.ref 113) [.ref sx, .str (PySem.Str.ofString "\\u" ++ y) tx, .int 2 ti, line, .ref 50, .int 4 tn, .str (PySem.Str.ofString "u") tp]) Q E s := by
  have hl := (len_fig hy).2
  obtain ⟨h1, h2, h3, h4, h5, h6⟩ := hy
  refine esc_all w p loose mean mg mb news _ tx sx doc 2 4 ti tn line 50 49 117 4 (PySem.Str.ofString "u") tp dp un gd cn cs a' ccd [] [] A₀ base h₀ L m s Q E B F N T TB (ktsDicts_nil) hcs hd hu R (pat4 w X) ⟨_, X 50 _ rfl, rfl⟩ (by decide) (by decide) (by omega) (plain_app (by unfold Plain; decide +kernel) h2) (by decide) (by decide) (by decide) ?_ ?_ X XB
  · intro why ctx g1 G e d od news' h' tk' _ _ _ _ _ _ _ hw
    rcases hw with ⟨hw, _⟩ | ⟨_, hw, _⟩
    · omega
    · rw [h6] at hw; cases hw
  · intro _ r hr tup t1 t2 h' tk' F' N'
    rw [h6] at hr
    cases hr
    exact hret tup t1 t2 h' tk' F' N'
end
end Mine
end
section
theorem Mine.fresh_W1 : True := by
  w_top off
  k_with_none
  trivial
open PySem PySem.W PyProof.Rows PySem.Calls PySem.SeqAt
set_option Elab.async false
set_option maxRecDepth 100000
namespace Mine
section
local macro_rules | `(tactic| k_gentoks) => `(tactic| ((with_reducible show wpAny _ _ _ _ _ (PySem.Shared.mk _ _ _ (HAdd.hAdd (HAdd.hAdd (HAdd.hAdd _ _) _) _) _)); refine toks_any (fun tk' => ?_)))
local macro_rules | `(tactic| walk_at "eval IfExp") => `(tactic| (k_here; (with_reducible show wpAny _ _ (eval (PySem.Expr.IfExp (PySem.Expr.Name (PySem.Str.ofString "script") _) _ _ _) _) _ _ _); (refine nums_join (by assumption) ?J ?W); (case' J => intro r ns own h' tk' hn F' N')))
local macro_rules | `(tactic| walk_at "call builtin:len") => `(tactic| (k_here; (refine nums_len (by assumption) (by assumption) (by assumption) (fun q hq => hq) ?_); intro hl0 hl1))
local macro_rules | `(tactic| walk_at "call ref") => `(tactic| (k_here; (with_reducible show wpAny _ _ (call (Value.ref 137) _) _ _ _); k_dflt ((first | (refine' reader_0 _ _ _ _ _ _ _ _ _ _ _ _ _ _ _ _ _ _ _ _ _ _ _ _ ?kB ?kF ?kN ?kT ?kk ?kd ?ku ?_ ?kX) | (refine' reader_1 _ _ _ _ _ _ _ _ _ _ _ _ _ _ _ _ _ _ _ _ _ _ _ _ _ ?kB ?kF ?kN ?kT ?kk ?kd ?ku ?_ ?kX)); (case kB => assumption); (case kF => assumption); (case kN => assumption); (case kT => assumption); (case kk => rfl); (case kX => assumption); (case kd => decide); (case ku => decide); intro x d td bd kw an va pa sd bu k1 k2 k3 k4 k5 k6 k7 k8 k9 k10 k11 k12 k13 k14 k15 tl ts tg tk h' tk' F' N' l1 l2; (try k_lt l1); (try k_lt2 l2); (unfold readerE at N'))))
local macro_rules | `(tactic| walk_at "compareOp NotEq ref ref") => `(tactic| (k_here; (rename News _ _ _ _ => N9); k_dflt ((refine' ne_twins ?a ?b (outR_twins ?o1 ?o2) ?u ?_); (case a => exact News.get N9 (List.Mem.head _)); (case b => exact News.get N9 (List.Mem.tail _ (List.Mem.head _))); (case o1 => assumption); (case o2 => assumption); (case u => exact Nat.le_of_ble_eq_true rfl))))
local macro_rules | `(tactic| walk_at "TurnEnd") => `(tactic| ((rename Fr _ _ _ _ => F9); (rename News _ _ _ _ => N9); (refine TurnEnd.intro F9 N9 (by intro q hq; (repeat (first | exact hq | apply List.Mem.tail))) (by
    intro y h1 h2
    have h3 := h2
    simp only [List.contains_cons, List.contains_nil, Bool.or_false, Bool.or_eq_false_iff, beq_eq_false_iff_ne, ne_eq] at h3
    obtain ⟨e1, e2, e3, e4, e5, e6, e7, e8, e9, e10⟩ := h3
    simp only [if_neg h1, if_neg e1, if_neg e2, if_neg e3, if_neg e4, if_neg e5, if_neg e6, if_neg e7, if_neg e8, if_neg e9, if_neg e10, h2, Bool.false_eq_true, if_false]))))
local macro_rules | `(tactic| walk_at "call ref") => `(tactic| (k_here; (first
  | ((with_reducible show wpAny _ _ (call (Value.ref 210) _) _ _ _); k_dflt ((refine' round_use ?kB ?kF ?kN ?kT ?kX ?kk ?k0 ?k1 ?kd ?ku ?_); (case kB => assumption); (case kF => assumption); (case kN => assumption); (case kT => assumption); (case kX => assumption); (case kk => rfl); (case k0 => exact fmod_lo _ (by decide)); (case k1 => exact fmod_hi _ (by decide)); (case kd => decide); (case ku => decide); intro tup' x' pre' i' n' door' t1' t2' t3' t4' t5' h' tk' hR' F' N'))
  | ((with_reducible show wpAny _ _ (call (Value.ref 217) _) _ _ _); k_dflt ((refine' due_any ?kR ?kB ?kF ?kN ?kT ?kX ?kk ?kd ?ku ?_); (case kR => assumption); (case kB => assumption); (case kF => assumption); (case kN => assumption); (case kT => assumption); (case kX => assumption); (case kk => rfl); (case kd => decide); (case ku => decide); intro l' vs' h' tk' o' F' N'))
  | ((with_reducible show wpAny _ _ (call (Value.ref 224) _) _ _ _); k_dflt ((refine' call_use ?kR ?kB ?kF ?kN ?kT ?kTB ?kX ?kXB ?kRd ?kk ?kd ?ku ?_); (case kR => assumption); (case kB => assumption); (case kF => assumption); (case kN => assumption); (case kT => assumption); (case kTB => assumption); (case kX => assumption); (case kXB => assumption); (case kRd => exact ReaderAt.more (by assumption) (by intro q hq; (repeat (first | exact hq | apply List.Mem.tail)))); (case kk => rfl); (case kd => decide); (case ku => decide); intro l' vs' c' h' tk' o' F' N')))))
local macro_rules | `(tactic| walk_at "call ref") => `(tactic| ((with_reducible show wpAny _ _ (call (Value.ref 217) _) _ _ _); exfalso; (rename @Ne Int _ _ => hb); (rename @Eq Int _ _ => ha); exact absurd ha hb))
local macro_rules | `(tactic| walk_at "compareOp NotEq ref ref") => `(tactic| (k_here; (rename FigOk _ => hy); (rename News _ _ _ _ => N9); k_dflt ((refine' ne_tups (News.get N9 (List.Mem.tail _ (List.Mem.head _))) (News.get N9 (List.Mem.head _)) (Twins.cons (Twin.int _ _ _) (Twins.cons (Twin.str _ _ _) Twins.nil)) ?u ?_); (case u => exact Nat.le_of_ble_eq_true rfl))))
local macro_rules | `(tactic| walk_at "compareOp Eq ref ref") => `(tactic| (k_here; (rename News _ _ _ _ => N9); k_dflt ((refine' eq_tups (News.get N9 (List.Mem.tail _ (List.Mem.head _))) (News.get N9 (List.Mem.head _)) (Twins.cons (Twin.int _ _ _) (Twins.cons (Twin.str _ _ _) Twins.nil)) ?u ?_); (case u => exact Nat.le_of_ble_eq_true rfl))))
local macro_rules | `(tactic| walk_at "binaryOp Add str str") => `(tactic| (k_here; k_dflt ((refine KOpn.add (by simp only [PySem.Str.length_append]; (try kopn_lits); omega) ?_); intro t' k' hl'; clear hl')))
local macro_rules | `(tactic| walk_at "subscriptTail") => `(tactic| (k_here; (with_reducible show wpAny _ _ (subscriptTail (PySem.Expr.Name (PySem.Str.ofString "numbers") _) _ (Value.ref _) (Value.int _ _)) _ _ _); (rename Nums _ _ _ _ => hn); k_dflt ((refine' nums_item hn ?kF ?kN ?ks ?k0 ?k1 ?_ ?kz); (case kF => assumption); (case kN => assumption); (case ks => intro q hq; (repeat (first | exact hq | apply List.Mem.tail))); (case k0 => first | decide | exact fmod_lo _ (by omega)); (case k1 => first | omega | exact fmod_hi _ (by omega)); (case kz => with_unfolding_all rfl); intro y' t')))
local macro_rules | `(tactic| walk_at "subscriptTail") => `(tactic| (k_here; (with_reducible show wpAny _ _ (subscriptTail (PySem.Expr.Name _ _) (PySem.Expr.BinOp _ _ _ _) (Value.ref _) (Value.int _ _)) _ _ _); (with_reducible rename StrsAre _ _ => hs); k_dflt ((refine' pick_fig ?k1 hs ?k3 ?k4 ?_); (case k1 => is_list); (case k3 => exact fmod_lo _ (by decide)); (case k4 => exact fmod_hi _ (by decide)); intro y' t' hy'; have hyl := hy'.len; have hy3 := hy'.lo; have hy4 := hy'.hi)))
local macro_rules | `(tactic| walk_at "call ref") => `(tactic| (k_here; (first
  | ((with_reducible show wpAny _ _ (call (Value.ref 168) _) _ _ _); k_dflt ((refine' four_ok _ _ _ _ _ _ _ _ _ _ _ _ _ _ _ _ _ _ _ _ _ _ _ _ ?kB ?kF ?kN ?kT ?kk ?kd ?ku ?_ ?kX); (case kB => assumption); (case kF => assumption); (case kN => assumption); (case kT => assumption); (case kX => assumption); (case kk => rfl); (case kd => decide); (case ku => decide); intro l' vs' h' tk' hs' F' N'))
  | ((with_reducible show wpAny _ _ (call (Value.ref 196) _) _ _ _); (rename FigOk _ => hy); k_dflt ((refine' value_call _ ?kB ?kF ?kX ?kN ?kT ?kk ?kx ?kd ?ku ?_); (case kB => assumption); (case kF => assumption); (case kX => assumption); (case kN => assumption); (case kT => assumption); (case kk => rfl); (case kx => rw [hy.len]; decide); (case kd => decide); (case ku => decide); intro t' h' tk' F' N'))
  | ((with_reducible show wpAny _ _ (call (Value.ref 113) _) _ _ _); (rename FigOk _ => hy); k_dflt ((first | refine' esc_a ?kB ?kF ?kN ?kT ?kTB ?kX ?kXB ?kk ?kd ?ku ?kR hy ?_ | refine' esc_b ?kB ?kF ?kN ?kT ?kTB ?kX ?kXB ?kk ?kd ?ku ?kR hy ?_); (case kB => assumption); (case kF => assumption); (case kN => assumption); (case kT => assumption); (case kTB => assumption); (case kX => assumption); (case kXB => assumption); (case kk => rfl); (case kd => decide); (case ku => decide); (case kR => exact ReaderAt.more (by assumption) (by intro q hq; (repeat (first | exact hq | apply List.Mem.tail)))); intro tup' t1' t2' h' tk' F' N')))))
local macro_rules | `(tactic| walk_at "subscriptTail Call Name nil nil BinOp ref int") => `(tactic| (k_here; k_dflt (refine kba_turn (value' := PySem.Expr.Name (PySem.Str.ofString "_") ⟨0, 0, 0, 0⟩) (fun _ => rfl) ?_)))
set_option maxHeartbeats 8000000 in
theorem law_holds : PySem.Challenge.rw_ez5014_01.Holds := Mine.hd (by
  k_go0
  (try (rename Dflts _ _ _ => z1; clear z1))
  (try (rename Dflts _ _ _ => z1; clear z1))
  (try (rename Tables _ _ _ _ => z1; clear z1))
  (try (rename TopE _ _ _ _ => z1; clear z1))
  (try (rename TopW _ _ _ => z1; clear z1))
  (try (rename BMod _ _ _ _ _ => z1; clear z1))
  (try (rename LooseAre _ _ _ => z1; clear z1))
  (try (rename Flt.MathXP _ _ _ => z1; clear z1))
  (try (rename Glob _ _ _ _ _ _ _ _ => z1; clear z1))
  (try (rename Heap.CodeRec _ _ _ => z1; clear z1))
  have hM : Mark := trivial
  k_with "pyIter ref" => (rename Mark => hMk; clear hMk; refine stop_at ?_)
  k_steps
  · unfold Stop
    rename IsRange _ _ _ _ _ _ _ _ => rg
    rename Fr _ _ _ _ => F0
    rename News _ _ _ _ => N0
    have Rp := reader_of (doc := PySem.Str.ofString "") "plain" F0 N0 rfl (by (repeat (first | exact List.Mem.head _ | apply List.Mem.tail))) (by (repeat (first | exact List.Mem.head _ | apply List.Mem.tail))) rfl rfl rfl rfl
    have Rn := reader_of (doc := PySem.Str.ofString "d:oc") "named" F0 N0 rfl (by (repeat (first | exact List.Mem.head _ | apply List.Mem.tail))) (by (repeat (first | exact List.Mem.head _ | apply List.Mem.tail))) rfl rfl rfl rfl
    refine iter_rangeLawO ["number", "text", "at", "size", "prefix", "door", "line", "first", "reader", "due"] rfl rg (by decide) (n := 16) rfl F0 N0 ?turn ?done
    case turn =>
      intro k tk1 u h1 tk2 own hlt hk0 hk1 F1 N1
      replace Rp := reader_more1 N1 Rp
      replace Rn := reader_more1 N1 Rn
      (try (rename Ground _ _ _ _ _ _ _ _ _ => z1; clear z1))
      (try (rename KHook.says _ _ _ => z1; clear z1))
      (repeat (rename ReadsAllW _ _ _ _ _ _ => z1; clear z1))
      (repeat (rename ReadsAll _ _ _ _ => z1; clear z1))
      (repeat (rename Reads _ _ _ _ => z1; clear z1))
      (repeat (rename Well _ _ _ _ => z1; clear z1))
      (repeat (rename @Eq Bool _ _ => z1; clear z1))

      k_steps
    case done =>
      intro u h1 tk1 F1 N1
      clear F0 N0 rg
      k_steps
  · exact ⟨_, _, [], rfl, ⟨_, .inl (by assumption), by assumption, by omega, by omega⟩, by assumption, News.nil, rfl⟩
  · rename News _ _ _ _ => NB
    exact ⟨_, [0], _, rfl, ⟨[.int 0 _], .inr ⟨0, .head _⟩, IntsAre.cons 0 _ IntsAre.nil, by decide, by decide⟩, by assumption, NB, rfl⟩)
end
end Mine
end
theorem PySem.Challenge.cw_ez5014_01_holds : PySem.Challenge.rw_ez5014_01.Holds :=
  Mine.law_holds
