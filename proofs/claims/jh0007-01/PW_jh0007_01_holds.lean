import PyProof.Rows.All
import Wide.All
import OpenK.AllK
import Wide.FinOn
import Lean
import PySem.Challenge.RW_jh0007_01
set_option Elab.async false
set_option rowWalk.seconds 0
set_option maxRecDepth 100000
open PySem PySem.W PyProof.Rows PySem.Calls
namespace Jh
theorem top_off : True := by
  w_top off
  trivial
local macro_rules | `(tactic| walk_at "compareOp In bytes bytes") => `(tactic| k_extra "compareOp In bytes bytes")
local macro_rules | `(tactic| walk_at "compareOp NotIn bytes bytes") => `(tactic| k_extra "compareOp NotIn bytes bytes")
local macro_rules | `(tactic| walk_at "compareOp Eq none bytes") => `(tactic| k_extra "compareOp Eq none bytes")
local macro_rules | `(tactic| walk_at "compareOp Eq bytes str") => `(tactic| k_extra "compareOp Eq bytes str")
local macro_rules | `(tactic| walk_at "subscriptTail") => `(tactic| k_extra "subscriptTail")
local macro_rules | `(tactic| walk_at "getMethod bytes") => `(tactic| k_extra "getMethod bytes")
local macro_rules | `(tactic| walk_at "call builtin:bytes.endswith") => `(tactic| k_extra "call builtin:bytes.endswith")
local macro_rules | `(tactic| walk_at "call builtin:bytes.replace") => `(tactic| k_extra "call builtin:bytes.replace")
local macro_rules | `(tactic| walk_at "call builtin:bytes.split") => `(tactic| k_extra "call builtin:bytes.split")
local macro_rules | `(tactic| walk_at "binaryOp Add bytes bytes") => `(tactic| k_extra "binaryOp Add bytes bytes")
local macro_rules | `(tactic| walk_at "InvEndN") => `(tactic| k_extra "InvEndN")
local macro_rules | `(tactic| walk_at "callWith ref") => `(tactic| k_extra "callWith ref")
local macro_rules | `(tactic| walk_at "exec For Tuple Call cons nil") => `(tactic| k_extra "exec For Tuple Call cons nil")
local macro_rules | `(tactic| walk_at "call type:enumerate") => `(tactic| k_extra "call type:enumerate")
local macro_rules | `(tactic| walk_at "call builtin:len") => `(tactic| k_extra "call builtin:len")
local macro_rules | `(tactic| walk_at "call builtin:bytes.join") => `(tactic| k_extra "call builtin:bytes.join")
local macro_rules | `(tactic| walk_at "call builtin:list.append") => `(tactic| k_extra "call builtin:list.append")
local macro_rules | `(tactic| walk_at "UnrEndW") => `(tactic| k_extra "UnrEndW")
local macro_rules | `(tactic| walk_at "compareOp In bytes ref") => `(tactic| k_extra "compareOp In bytes ref")
local macro_rules | `(tactic| walk_at "call builtin:bytes.decode") => `(tactic| k_extra "call builtin:bytes.decode")
local macro_rules | `(tactic| walk_at "call ref") => `(tactic| k_extra "call ref")
local macro_rules | `(tactic| walk_at "leaving ref") => `(tactic| k_extra "leaving ref")
local macro_rules | `(tactic| walk_at "compareOp In str ref") => `(tactic| k_extra "compareOp In str ref")
local macro_rules | `(tactic| walk_at "compareOp IsNot") => `(tactic| k_extra "compareOp IsNot")
local macro_rules | `(tactic| walk_at "truthy") => `(tactic| k_extra "truthy")
local macro_rules | `(tactic| walk_at "compareOp Is bytes bool") => `(tactic| k_extra "compareOp Is bytes bool")
local macro_rules | `(tactic| walk_at "compareOp Is none bool") => `(tactic| k_extra "compareOp Is none bool")
local macro_rules | `(tactic| walk_at "ite") => `(tactic| k_extra "ite")
local macro_rules | `(tactic| walk_at "compareOp Eq str str") => `(tactic| k_extra "compareOp Eq str str")
local macro_rules | `(tactic| walk_at "execs cons") => `(tactic| k_extra "execs cons")
local macro_rules | `(tactic| walk_at "eval IfExp") => `(tactic| k_extra "eval IfExp")
local macro_rules | `(tactic| walk_at "binaryOp FloorDiv int int") => `(tactic| k_extra "binaryOp FloorDiv int int")
local macro_rules | `(tactic| walk_at "eval Name") => `(tactic| k_extra "eval Name")
local macro_rules | `(tactic| walk_at "eval ListComp") => `(tactic| k_extra "eval ListComp")
local macro_rules | `(tactic| walk_at "call builtin:sum") => `(tactic| k_extra "call builtin:sum")
local macro_rules | `(tactic| walk_at "eval Dict") => `(tactic| k_extra "eval Dict")
local macro_rules | `(tactic| walk_at "KdnMade") => `(tactic| k_extra "KdnMade")
local macro_rules | `(tactic| walk_at "getMethod ref") => `(tactic| k_extra "getMethod ref")
local macro_rules | `(tactic| walk_at "call builtin:dict.get") => `(tactic| k_extra "call builtin:dict.get")
local macro_rules | `(tactic| walk_at "compareOp Eq") => `(tactic| k_extra "compareOp Eq")
local macro_rules | `(tactic| walk_at "exec If") => `(tactic| k_extra "exec If")
local macro_rules | `(tactic| walk_at "CutP") => `(tactic| k_extra "CutP")
local macro_rules | `(tactic| walk_at "forall") => `(tactic| k_extra "forall")
local macro_rules | `(tactic| walk_at "truthy str") => `(tactic| k_extra "truthy str")
local macro_rules | `(tactic| walk_at "binaryOp Add str str") => `(tactic| k_extra "binaryOp Add str str")
local macro_rules | `(tactic| walk_at "exec Assign") => `(tactic| k_extra "exec Assign")
local macro_rules | `(tactic| walk_at "CutK") => `(tactic| k_extra "CutK")
local macro_rules | `(tactic| walk_at "compareOp NotEq") => `(tactic| k_extra "compareOp NotEq")
local macro_rules | `(tactic| walk_at "compareOp Is") => `(tactic| k_extra "compareOp Is")
local macro_rules | `(tactic| walk_at "compareOp NotEq str str") => `(tactic| k_extra "compareOp NotEq str str")
local macro_rules | `(tactic| walk_at "compareOp NotEq bytes bytes") => `(tactic| k_extra "compareOp NotEq bytes bytes")
local macro_rules | `(tactic| walk_at "CompSrc") => `(tactic| k_extra "CompSrc")
local macro_rules | `(tactic| walk_at "eval Dict nil nil") => `(tactic| k_extra "eval Dict nil nil")
local macro_rules | `(tactic| walk_at "setItem ref bytes") => `(tactic| k_extra "setItem ref bytes")
local macro_rules | `(tactic| walk_at "CutT") => `(tactic| k_extra "CutT")
section
def pickH {P : Prop} (a : Hook) (_ : P → P) : Hook := a
local macro_rules | `(tactic| o_head $H) => `(tactic| (case hook => exact $H))
noncomputable def hd : Hook := by
  refine pickH (P := PySem.Challenge.rw_jh0007_01.row.Holds) ?hook ?main
  rotate_left
  intro hm
  k_head
  exact hm
def kept : List Nat := [0, 2, 3, 4, 5, 6, 7, 8, 9, 12, 13, 14, 16, 17, 18, 19, 21, 22, 23, 24, 25, 26, 27, 28]
def loose : List Str := [Str.ofString "CRLFAction", Str.ofString "resolve_crlf_action", Str.ofString "line_ending_filter_for_action", Str.ofString "LineEndingFilter", Str.ofString "check_safecrlf"]
def seenV : Program := view PySem.Challenge.pw_jh0007_01 kept
def Xt (s : Shared) : Bool := xlAt seenV [] s && recOk (RowW.records PySem.Challenge.rw_jh0007_01.row.toRowW) s
theorem op_ok : opening PySem.Challenge.pw_jh0007_01 = plainProg PySem.Challenge.pw_jh0007_01.main.scope.names := by kernel_rfl
theorem fe_ok (s : Shared) : fenceModules? PySem.Challenge.pw_jh0007_01 s = some s := by kernel_rfl
set_option maxHeartbeats 80000000 in
theorem left_ok : LeftO PySem.Challenge.pw_jh0007_01 seenV loose Xt (Hook.obs hd) (Hook.val hd) 2734 := fun w => by
  obtain ⟨⟨h, gs, d, k, os⟩, e, e'⟩ := Option.map_eq_some_iff.mp (boot_open (N := 2734) op_ok rfl fe_ok w)
  obtain ⟨rfl, rfl, rfl, rfl⟩ : h = boot_heap w.params ∧ gs = Array.mk [] ∧ d = boot_drawn ∧ k = boot_toks := by simpa using e'
  unfold openEnds
  rw [e]
  clear e e'
  unfold topFrom
  rw [PySem.W.Fast.te14082659384304107361, PySem.W.Fast.te4187177175401517315]
  kernel_rfl
end
section
open Builtin
theorem slot_replace : Slot "bytes" "replace" "bytes.replace" :=
  .of (owner := "bytes") (n := "replace") (by rw [typeLookup_type, builtinLookup_eq_fast]; kernel_rfl) (by decide +kernel) (by decide +kernel) (by decide +kernel)
    (by first | exact .inl (by decide +kernel) | exact .inr (by decide +kernel)) (by rw [isSubtype_type]; kernel_rfl)
theorem type_replace : typeOf (.builtin "bytes.replace") = pure (.type "method_descriptor") := by show builtinType _ = _; rw [builtinType_eq_fast]; kernel_rfl
theorem entry_replace : entryFor table "bytes.replace" = some Builtin.«bytes.replace» := entryFor_of_tree (by kernel_rfl)
theorem args_replace (a b c : Value) : argsOk "bytes.replace" ⟨[a, b, c], []⟩ := by
  unfold argsOk; rw [signature?_of (id := "bytes.replace") (n := ['e', 'c', 'a', 'l', 'p', 'e', 'r']) (o := ['s', 'e', 't', 'y', 'b']) (by kernel_rfl) FB.owner_bytes]; kernel_rfl
theorem slot_split : Slot "bytes" "split" "bytes.split" :=
  .of (owner := "bytes") (n := "split") (by rw [typeLookup_type, builtinLookup_eq_fast]; kernel_rfl) (by decide +kernel) (by decide +kernel) (by decide +kernel)
    (by first | exact .inl (by decide +kernel) | exact .inr (by decide +kernel)) (by rw [isSubtype_type]; kernel_rfl)
theorem type_split : typeOf (.builtin "bytes.split") = pure (.type "method_descriptor") := by show builtinType _ = _; rw [builtinType_eq_fast]; kernel_rfl
theorem entry_split : entryFor table "bytes.split" = some Builtin.«bytes.split» := entryFor_of_tree (by kernel_rfl)
theorem args_split (a b : Value) : argsOk "bytes.split" ⟨[a, b], []⟩ := by
  unfold argsOk; rw [signature?_of (id := "bytes.split") (n := ['t', 'i', 'l', 'p', 's']) (o := ['s', 'e', 't', 'y', 'b']) (by kernel_rfl) FB.owner_bytes]; kernel_rfl
theorem slot_join : Slot "bytes" "join" "bytes.join" :=
  .of (owner := "bytes") (n := "join") (by rw [typeLookup_type, builtinLookup_eq_fast]; kernel_rfl) (by decide +kernel) (by decide +kernel) (by decide +kernel)
    (by first | exact .inl (by decide +kernel) | exact .inr (by decide +kernel)) (by rw [isSubtype_type]; kernel_rfl)
theorem type_join : typeOf (.builtin "bytes.join") = pure (.type "method_descriptor") := by show builtinType _ = _; rw [builtinType_eq_fast]; kernel_rfl
theorem entry_join : entryFor table "bytes.join" = some Builtin.«bytes.join» := entryFor_of_tree (by kernel_rfl)
theorem args_join (a b : Value) : argsOk "bytes.join" ⟨[a, b], []⟩ := by
  unfold argsOk; rw [signature?_of (id := "bytes.join") (n := ['n', 'i', 'o', 'j']) (o := ['s', 'e', 't', 'y', 'b']) (by kernel_rfl) FB.owner_bytes]; kernel_rfl
theorem noIndex_bytes : typeLookup (.type "bytes") "__index__" = pure none := by rw [typeLookup_type, builtinLookup_eq_fast]; kernel_rfl
theorem typeName_bytes : typeName (.type "bytes") = pure "bytes" := by unfold typeName; rw [find?_eq_fast]; kernel_rfl
theorem typeNameCut_bytes (n : Nat) : typeNameOfCut n (.bytes b t) = pure "bytes" := by
  unfold typeNameOfCut shownTypeOf
  show typeNameCut n (.type "bytes") = _
  exact typeName_bytes
section
variable {prog : Program} {w : World} {A : Around} {E : Value → Shared → Prop} {s : Shared} {b c x : Array UInt8} {t u v : Tok}
theorem asIndex_bytes {Q : Int → Shared → Prop} (hh : A.handled = none) (h : ∀ h' tk e, Heap.NewExc s.heap h' e "TypeError" → E (.ref e) { s with heap := h', toks := tk }) :
    wpAny (model prog w) A (asIndex (.bytes b t)) Q E s := by
  unfold asIndex
  refine wpAny_bind (wpAny_of_eq (a := none) rfl ?_)
  refine wpAny_bind (wpAny_callSpecial?_none (typeIs_bytes s b t) noIndex_bytes ?_)
  refine wpAny_bind (wpAny_of_eq (typeNameCut_bytes 200) ?_)
  exact_raiseError plainExc_TypeError hh h
theorem meets_contains : Meets («bytes.__contains__» ⟨[.bytes b t, .bytes x u], []⟩) (fun A R s => A.handled = none ∧ ∀ h' tk, (∀ a o, s.heap.get? a = some o → h'.get? a = some o) → R (.ok (.ret (.bool (Bytes.find? b x 0 b.size).isSome))) { s with heap := h', toks := tk }) := by
  refine .of_wp fun prog w A R s hS => ?_
  obtain ⟨hh, h⟩ := hS
  show wpAny _ _ (Bytes.containsIn "bytes.__contains__" (.bytes b t) (.bytes x u) >>= fun r => ret (.bool r)) _ _ s
  refine wpAny_bind ?_
  unfold Bytes.containsIn
  refine wpAny_bind (wpAny_attempt (asIndex_bytes hh fun h' tk e hx => ?_))
  refine wpAny_bind (wpAny_of_eq KBy.buffer_eq ?_)
  refine wpAny_bind (wpAny_of_eq KBy.buffer_eq ?_)
  refine wpAny_bind (wpAny_rule (wpAny_pure (wpAny_pure ⟨_, rfl, h _ _ ?_⟩)))
  exact hx.1
theorem in_bytes {h₀ : Heap} {L : Addr} {m : Str → Option Value} {news : List (Addr × Obj)} {Q : Value → Shared → Prop} (F : Fr h₀ L s.heap m) (N : News h₀ L s.heap news) (hh : A.handled = none)
    (h : ∀ h' tk, Fr h₀ L h' m → News h₀ L h' news → Q (.bool (Bytes.find? b x 0 b.size).isSome) { s with heap := h', toks := tk }) :
    wpAny (model prog w) A (compareOp .In (.bytes x u) (.bytes b t)) Q E s := by
  show wpAny _ _ (do return .bool (← contains (.bytes b t) (.bytes x u))) Q E s
  refine wpAny_bind (wpAny_contains_slot (typeIs_bytes s b t) FB.slot_bytes_contains (call_meets FB.slot_bytes_contains (typeIs_bytes s b t) FB.entry_bytes_contains (FB.args_bytes_contains_2 _ _) meets_contains ⟨hh, ?_⟩))
  intro h' tk hk
  exact wpAny_truthy_bool (wpAny_pure (h h' tk (F.keptAll hk) (N.grown hk)))
def replA (b c x : Array UInt8) : Array UInt8 := Bytes.joined x (Bytes.between b c.size (Bytes.occurrences b c 0 b.size))
theorem between_nil (b : Array UInt8) (n : Nat) : Bytes.between b n [] = [b] := by
  simp [Bytes.between]
theorem joined_one (x b : Array UInt8) : Bytes.joined x [b] = b := by
  simp [Bytes.joined]
theorem meets_replace (hc : c.isEmpty = false) (hsz : (replA b c x).size ≤ sizeLine) (hsz2 : Bytes.tooLong (b.size + (Bytes.occurrences b c 0 b.size).length * x.size) = false) :
    Meets («bytes.replace» ⟨[.bytes b t, .bytes c u, .bytes x v], []⟩) (fun _ R s => ∀ t' k, R (.ok (.ret (.bytes (replA b c x) t'))) { s with toks := k }) := by
  refine .of_wp fun prog w A R s h => ?_
  show wpAny _ _ (Bytes.bytesLike _ (.bytes c u) >>= fun r => _) _ _ s
  refine wpAny_bind (wpAny_of_eq KBd.like_eq ?_)
  refine wpAny_bind (wpAny_of_eq KBd.like_eq ?_)
  refine wpAny_bind (wpAny_pure ?_)
  refine wpAny_bind (wpAny_of_eq KBd.like_eq ?_)
  refine wpAny_bind (wpAny_of_eq KBd.like_eq ?_)
  refine wpAny_bind (wpAny_of_eq (a := b) rfl ?_)
  simp only [hc, Bool.false_eq_true, if_false]
  show wpAny _ _ (if ((Bytes.occurrences b c 0 b.size).isEmpty || (false && x.isEmpty)) = true then _ else _) _ _ s
  by_cases he : (Bytes.occurrences b c 0 b.size).isEmpty = true
  · rw [if_pos (by rw [he]; rfl)]
    refine wpAny_bind (wpAny_rule (wpAny_bind (wpAny_of_eq (a := .bytes b t) rfl (wpAny_pure ⟨_, rfl, ?_⟩))))
    have e : replA b c x = b := by
      unfold replA
      rw [List.isEmpty_iff.mp he, between_nil, joined_one]
    have h' := h t s.toks
    rw [e] at h'
    exact h'
  · rw [if_neg (by simpa using he)]
    show wpAny _ _ (if Bytes.tooLong (b.size + (Bytes.occurrences b c 0 b.size).length * x.size) = true then _ else _) _ _ s
    rw [hsz2]
    simp only [Bool.false_eq_true, if_false]
    exact wpAny_bind (wpAny_mkBytes (wpAny_pure ⟨_, rfl, h _ _⟩) hsz)
theorem call_replace {Q : Value → Shared → Prop} (hc : c.isEmpty = false) (hsz : (replA b c x).size ≤ sizeLine) (hsz2 : Bytes.tooLong (b.size + (Bytes.occurrences b c 0 b.size).length * x.size) = false)
    (h : ∀ t' k, Q (.bytes (replA b c x) t') { s with toks := k }) : wpAny (model prog w) A (call (.builtin "bytes.replace") [.bytes b t, .bytes c u, .bytes x v]) Q E s :=
  call_meets slot_replace (typeIs_bytes _ _ _) entry_replace (args_replace _ _ _) (meets_replace hc hsz hsz2) h
theorem sub_bytes_tuple : isSubtype (.type "bytes") (.type "tuple") = pure false := by rw [isSubtype_type]; kernel_rfl
theorem window_all (n : Nat) : Bytes.window n none none = (0, (n : Int)) := by
  have h : ¬ ((n : Int) < 0) := by omega
  simp [Bytes.window, h]
theorem meets_endswith : Meets («bytes.endswith» ⟨[.bytes b t, .bytes c u], []⟩) (fun _ R s => R (.ok (.ret (.bool (decide (c.size ≤ b.size) && (b.extract (b.size - c.size) b.size == c))))) s) := by
  refine .of_wp fun prog w A R s h => ?_
  refine wpAny_bind (wpAny_of_eq (a := (Value.bytes b t, [Value.bytes c u])) rfl ?_)
  refine wpAny_bind (wpAny_of_eq (a := none) rfl ?_)
  refine wpAny_bind (wpAny_of_eq (a := none) rfl ?_)
  refine wpAny_bind (wpAny_of_eq (a := b) rfl ?_)
  rw [window_all]
  refine wpAny_bind (wpAny_isInstance (typeIs_bytes s c u) sub_bytes_tuple ?_)
  simp only [Bool.false_eq_true, if_false]
  refine wpAny_bind (wpAny_of_eq KBy.buffer_eq ?_)
  refine wpAny_pure ⟨_, rfl, ?_⟩
  by_cases hc : c.size ≤ b.size
  · have e1 : ¬ ((b.size : Int) - 0 < c.size) := by omega
    simp only [e1, if_false, if_true, Int.toNat_natCast]
    rw [decide_eq_true hc, Bool.true_and] at h
    exact h
  · have e1 : ((b.size : Int) - 0 < c.size) := by omega
    simp only [e1, if_true]
    rw [decide_eq_false hc, Bool.false_and] at h
    exact h
theorem call_endswith {Q : Value → Shared → Prop} (h : Q (.bool (decide (c.size ≤ b.size) && (b.extract (b.size - c.size) b.size == c))) s) :
    wpAny (model prog w) A (call (.builtin "bytes.endswith") [.bytes b t, .bytes c u]) Q E s :=
  call_meets FB.slot_bytes_endswith (typeIs_bytes _ _ _) FB.entry_bytes_endswith (FB.args_bytes_endswith_2 _ _) meets_endswith h
/-- the values are these bytes -/
inductive BytesAre : List Value → List (Array UInt8) → Prop
  | nil : BytesAre [] []
  | cons {b : Array UInt8} {t : Tok} {vs : List Value} {bs : List (Array UInt8)} (h : BytesAre vs bs) : BytesAre (.bytes b t :: vs) (b :: bs)
theorem BytesAre.length {vs : List Value} {bs : List (Array UInt8)} (h : BytesAre vs bs) : vs.length = bs.length := by
  induction h with
  | nil => rfl
  | cons _ ih => simp [ih]
theorem BytesAre.get {vs : List Value} {bs : List (Array UInt8)} (h : BytesAre vs bs) : ∀ (i : Nat) (hi : i < bs.length), ∃ t, vs[i]? = some (.bytes bs[i] t) := by
  induction h with
  | nil => intro i hi; exact absurd hi (Nat.not_lt_zero _)
  | @cons b t vs bs h ih =>
    intro i hi
    cases i with
    | zero => exact ⟨t, rfl⟩
    | succ i => simpa using ih i (Nat.lt_of_succ_lt_succ hi)
theorem BytesAre.append {vs ws : List Value} {bs cs : List (Array UInt8)} (h : BytesAre vs bs) (g : BytesAre ws cs) : BytesAre (vs ++ ws) (bs ++ cs) := by
  induction h with
  | nil => exact g
  | cons _ ih => exact .cons ih
theorem mapM_bytes : ∀ (bs : List (Array UInt8)) (s : Shared) (Q : List Value → Shared → Prop), (∀ b ∈ bs, b.size ≤ sizeLine) → (∀ vs k, BytesAre vs bs → Q vs { s with toks := k }) → wpAny (model prog w) A (bs.mapM (Bytes.Kind.new .bytes)) Q E s
  | [], s, Q, _, h => by rw [List.mapM_nil]; exact wpAny_pure (h [] s.toks .nil)
  | b :: r, s, Q, hb, h => by
    rw [List.mapM_cons]
    refine wpAny_bind (wpAny_mkBytes (wpAny_bind (mapM_bytes r _ _ (fun y hy => hb y (List.mem_cons_of_mem _ hy)) fun vs k hv => wpAny_pure (h _ _ (.cons hv)))) (hb b (List.mem_cons_self ..)))
theorem meets_split (hc : c.isEmpty = false) (hlen : (Bytes.between b c.size (Bytes.occurrences b c 0 b.size)).length ≤ sizeLine) (hsz : ∀ p ∈ Bytes.between b c.size (Bytes.occurrences b c 0 b.size), p.size ≤ sizeLine)
    (hlim : (Bytes.occurrences b c 0 b.size).length ≤ b.size + 1) :
    Meets («bytes.split» ⟨[.bytes b t, .bytes c u], []⟩) (fun _ R s => ∀ vs k, BytesAre vs (Bytes.between b c.size (Bytes.occurrences b c 0 b.size)) →
      R (.ok (.ret (.ref s.heap.objs.size))) { s with heap := s.heap.push { cls := .type "list", data := .seq vs.toArray }, toks := k }) := by
  refine .of_wp fun prog w A R s h => ?_
  refine wpAny_bind (wpAny_of_eq (a := [some (Value.bytes c u), none]) rfl ?_)
  refine wpAny_bind (wpAny_of_eq (a := (-1 : Int)) rfl ?_)
  refine wpAny_bind (wpAny_of_eq (a := b) rfl ?_)
  refine wpAny_bind (wpAny_of_eq KBd.like_eq ?_)
  simp only [hc, Bool.false_eq_true, if_false]
  have htake : (Bytes.occurrences b c 0 b.size).take (if (-1 : Int) < 0 then b.size + 1 else (-1 : Int).toNat) = Bytes.occurrences b c 0 b.size := by
    simp only [show (-1 : Int) < 0 from by decide, if_true]
    exact List.take_of_length_le hlim
  show wpAny _ _ (if ((Bytes.occurrences b c 0 b.size).take (if (-1 : Int) < 0 then b.size + 1 else (-1 : Int).toNat)).isEmpty = true then _ else _) _ _ s
  rw [htake]
  by_cases he : (Bytes.occurrences b c 0 b.size).isEmpty = true
  · rw [if_pos he]
    refine wpAny_bind (wpAny_rule (wpAny_bind (wpAny_of_eq (a := .bytes b t) rfl (wpAny_bind (wpAny_newList (wpAny_pure ⟨_, rfl, ?_⟩) ?_)))))
    · refine h _ _ ?_
      rw [List.isEmpty_iff.mp he, between_nil]
      exact .cons .nil
    · rw [sizeLine_eq]; simp
  · rw [if_neg he]
    refine wpAny_bind (mapM_bytes _ _ _ hsz fun vs k hv => wpAny_bind (wpAny_newList (wpAny_pure ⟨_, rfl, h _ _ hv⟩) ?_))
    rw [hv.length]; exact hlen
theorem call_split {h₀ : Heap} {L : Addr} {m : Str → Option Value} {news : List (Addr × Obj)} {Q : Value → Shared → Prop} (F : Fr h₀ L s.heap m) (N : News h₀ L s.heap news) (hc : c.isEmpty = false)
    (hlen : (Bytes.between b c.size (Bytes.occurrences b c 0 b.size)).length ≤ sizeLine) (hsz : ∀ p ∈ Bytes.between b c.size (Bytes.occurrences b c 0 b.size), p.size ≤ sizeLine) (hlim : (Bytes.occurrences b c 0 b.size).length ≤ b.size + 1)
    (h : ∀ l vs h' k, BytesAre vs (Bytes.between b c.size (Bytes.occurrences b c 0 b.size)) → Fr h₀ L h' m → News h₀ L h' ((l, PySem.W.listOf vs.toArray 0) :: news) → (∀ p ∈ news, p.1 < l) → Q (.ref l) { s with heap := h', toks := k }) :
    wpAny (model prog w) A (call (.builtin "bytes.split") [.bytes b t, .bytes c u]) Q E s :=
  call_meets slot_split (typeIs_bytes _ _ _) entry_split (args_split _ _) (meets_split hc hlen hsz hlim) fun vs k hv => h _ vs _ k hv (F.push _) (N.push F _) fun p hp => Heap.lt_size (N p hp).1
end
end
section
open Builtin
section
variable {prog : Program} {w : World} {A : Around} {E : Value → Shared → Prop} {s : Shared} {b c x : Array UInt8} {t u v : Tok}
theorem take_eq {id : String} : Bytes.takeBufferQuiet? id (.bytes b t) 0 = pure (some (b, none)) := by
  unfold Bytes.takeBufferQuiet? Bytes.takeBuffer?
  rw [KBy.special_eq KBy.look_buffer, KBy.own_buffer]
  rw [show (0 == Bytes.fullReadOnly) = false from by decide, KBy.buffer_eq]
  rfl
theorem letGo_bytes : ∀ (taken : List (Value × Option Value)) (keep : List Value) {Q : Unit → Shared → Prop} {s : Shared}, (∀ p ∈ taken, p.2 = none) → Q () s → wpAny (model prog w) A (Bytes.joinLetGo taken keep) Q E s
  | [], _, _, _, _, h => wpAny_pure h
  | (x, w') :: r, keep, Q, s, hn, h => by
    have e : w' = none := hn (x, w') (List.mem_cons_self ..)
    subst e
    unfold Bytes.joinLetGo
    refine wpAny_bind (wpAny_letGo (letGo_bytes r keep (fun p hp => hn p (List.mem_cons_of_mem _ hp)) h))
theorem bytes_take {vs : List Value} {bs : List (Array UInt8)} (h : BytesAre vs bs) : ∀ p ∈ (vs.map fun v => (v, (none : Option Value))), p.1.onHeap = false ∧ p.2 = none := by
  induction h with
  | nil => intro p hp; simp at hp
  | cons _ ih =>
    intro p hp
    rcases List.mem_cons.mp hp with rfl | hp
    · exact ⟨rfl, rfl⟩
    · exact ih p hp
theorem meets_join {l : Addr} {vs : List Value} {bs : List (Array UInt8)} {n : Nat} (hv : BytesAre vs bs) (hsz : (Bytes.joined b bs).size ≤ sizeLine)
   (hlong : Bytes.tooLong (bs.toArray.foldl (fun x y => x + y.size) (b.size * (bs.toArray.size - 1))) = false) :
    Meets («bytes.join» ⟨[.bytes b t, .ref l], []⟩) (fun _ R s => s.heap.get? l = some (PySem.W.listOf vs.toArray n) ∧ ∀ t' k, R (.ok (.ret (.bytes (Bytes.joined b bs) t'))) { s with toks := k }) := by
  refine .of_wp fun prog w A R s h => ?_
  obtain ⟨ho, h⟩ := h
  refine wpAny_bind (wpAny_of_eq (a := (Value.bytes b t, Value.ref l)) rfl ?_)
  have hl : s.heap.IsList l vs.toArray := PySem.IsL.isList (n := n) ho
  show wpAny _ _ (Bytes.joinItems (.ref l) >>= fun seq => _) _ _ s
  refine wpAny_bind ?_
  unfold Bytes.joinItems
  refine wpAny_bind (wpAny_typeOf hl.typeIs ?_)
  refine wpAny_pure ?_
  refine wpAny_bind (wpAny_seqItems ho rfl ?_)
  have key : ∀ (jp : Sem PySem.Fin), (vs.length ≠ 1 → wpAny (model prog w) A.in1 jp (fun fin s' => ∃ v, fin = .done (.ret v) ∧ R (.ok (.ret v)) s') (fun e s' => R (.error e) s') s) →
     wpAny (model prog w) A.in1 (match vs.toArray with
        | #[x] => do
          let r ← PySem.typeOf x
          if (r == Value.type "bytes") = true then do
            rule "bytes.join.one-item"
            ret x
          else jp
        | _ => jp) (fun fin s' => ∃ v, fin = .done (.ret v) ∧ R (.ok (.ret v)) s') (fun e s' => R (.error e) s') s := by
    intro jp hjp
    cases hv with
    | nil => exact hjp (by simp)
    | @cons x tx vs' bs' hv' =>
      cases hv' with
      | nil =>
        refine wpAny_bind (wpAny_typeOf (typeIs_bytes s x tx) ?_)
        have e : Bytes.joined b [x] = x := joined_one b x
        refine wpAny_bind (wpAny_rule (wpAny_pure ⟨_, rfl, ?_⟩))
        have h' := h tx s.toks
        rw [e] at h'
        exact h'
      | cons hv'' => exact hjp (by simp)
  refine key _ fun _ => ?_
  refine wpAny_bind ?_
  rw [Std.Legacy.Range.forIn_eq_forIn_range']
  have hsize : [:vs.toArray.size].size = vs.length := by simp [Std.Legacy.Range.size]
  rw [hsize]
  have hlen := hv.length
  refine wpAny_forIn_list _
      (fun rest st s' => s' = s ∧ ∃ i, i ≤ vs.length ∧ rest = List.range' i (vs.length - i) ∧ st.1 = (bs.take i).toArray ∧ st.2 = (vs.take i).map fun v => (v, (none : Option Value))) _ ?_ ?_ _ _
      ⟨rfl, 0, Nat.zero_le _, by simp, by simp, by simp⟩
  · rintro x rest ⟨parts, taken⟩ s' ⟨rfl, i, hi, hr, hp, ht⟩
    dsimp only at hp ht
    subst hp ht
    have hlt : i < vs.length := by
      false_or_by_contra
      rename_i hc
      have : vs.length - i = 0 := by omega
      rw [this] at hr
      simp at hr
    have hr' : x = i ∧ rest = List.range' (i + 1) (vs.length - (i + 1)) := by
      have e : vs.length - i = (vs.length - (i + 1)) + 1 := by omega
      rw [e, List.range'_succ] at hr
      injection hr with h1 h2
      exact ⟨h1, h2⟩
    obtain ⟨rfl, rfl⟩ := hr'
    have hib : x < bs.length := by omega
    obtain ⟨tt, hx⟩ := hv.get x hib
    have hx' : vs.toArray.getD x Value.none = .bytes bs[x] tt := by
      have : vs[x]'hlt = .bytes bs[x] tt := by
        have := List.getElem?_eq_getElem hlt
        rw [hx] at this; exact (Option.some.inj this).symm
      simp [Array.getD, hlt, this]
    have hany : ((vs.take x).map fun v => (v, (none : Option Value))).any (fun p => p.1.onHeap) = false := by
      rw [List.any_eq_false]
      intro p hp
      have := bytes_take hv p (by rw [List.map_take] at hp; exact List.mem_of_mem_take hp)
      rw [this.1]; exact Bool.false_ne_true
    refine wpAny_bind (wpAny_seqItems ho rfl ?_)
    dsimp only
    rw [hx']
    rw [if_neg (by rw [hany]; decide)]
    refine wpAny_bind (wpAny_holding ?_)
    rw [take_eq]
    refine wpAny_pure ?_
    refine wpAny_bind (wpAny_seqItems ho rfl ?_)
    dsimp only
    rw [if_neg (by simp)]
    refine wpAny_pure ⟨rfl, x + 1, hlt, rfl, ?_, ?_⟩
    · dsimp only
      rw [List.take_add_one, List.getElem?_eq_getElem hib]
      simp
    · dsimp only
      rw [List.take_add_one, hx]
      simp
  · rintro ⟨parts, taken⟩ s' ⟨rfl, i, hi, hr, hp, ht⟩
    dsimp only at hp ht
    have hin : i = vs.length := by
      false_or_by_contra
      have e : vs.length - i = (vs.length - (i + 1)) + 1 := by omega
      rw [e, List.range'_succ] at hr
      cases hr
    subst hin
    rw [List.take_length] at ht
    rw [hlen, List.take_length] at hp
    subst hp ht
    refine wpAny_bind (wpAny_of_eq (a := b) rfl ?_)
    dsimp only
    rw [hlong]
    rw [if_neg Bool.false_ne_true]
    refine wpAny_bind (wpAny_mkBytes ?_ hsz)
    refine wpAny_bind (wpAny_holding (wpAny_point ?_))
    refine wpAny_bind (letGo_bytes _ _ (fun p hp => (bytes_take hv p hp).2) ?_)
    exact wpAny_pure ⟨_, rfl, h _ _⟩
theorem call_join {h₀ : Heap} {L l : Addr} {news : List (Addr × Obj)} {vs : List Value} {bs : List (Array UInt8)} {n : Nat} {Q : Value → Shared → Prop} (N : News h₀ L s.heap news) (hm : (l, PySem.W.listOf vs.toArray n) ∈ news) (hv : BytesAre vs bs)
    (hsz : (Bytes.joined b bs).size ≤ sizeLine)
   (hlong : Bytes.tooLong (bs.toArray.foldl (fun x y => x + y.size) (b.size * (bs.toArray.size - 1))) = false)
   (h : ∀ t' k, Q (.bytes (Bytes.joined b bs) t') { s with toks := k }) : wpAny (model prog w) A (call (.builtin "bytes.join") [.bytes b t, .ref l]) Q E s :=
  call_meets slot_join (typeIs_bytes _ _ _) entry_join (args_join _ _) (meets_join hv hsz hlong) ⟨(N _ hm).1, h⟩
end
end
section
open Builtin
theorem slot_bytes_eq_refl : Slot "bytes" (cmpInfo .Eq).2.2 "bytes.__eq__" :=
  .of (owner := "bytes") (n := "__eq__") (by rw [typeLookup_type, builtinLookup_eq_fast]; kernel_rfl) (by decide +kernel) (by decide +kernel) (by decide +kernel)
    (by first | exact .inl (by decide +kernel) | exact .inr (by decide +kernel)) (by rw [isSubtype_type]; kernel_rfl)
theorem sub_bytes_NoneType : isSubtype (.type "bytes") (.type "NoneType") = pure false := by rw [isSubtype_type]; kernel_rfl
theorem sub_NoneType_bytes : isSubtype (.type "NoneType") (.type "bytes") = pure false := by rw [isSubtype_type]; kernel_rfl
theorem sub_str_bytes : isSubtype (.type "str") (.type "bytes") = pure false := by rw [isSubtype_type]; kernel_rfl
theorem gives_none_bytes (b : Array UInt8) (t : Tok) : Gives (Builtin.«NoneType.__eq__» ⟨[.none, .bytes b t], []⟩) (.val (Value.notImplemented)) :=
  .of_wp fun M A E s Q h => by obtain ⟨hp, g, d, tk, os⟩ := s; wp_walk; exact ⟨_, rfl, h⟩
theorem gives_str_bytes (a : Str) (u : Tok) (b : Array UInt8) (t : Tok) : Gives (Builtin.«str.__eq__» ⟨[.str a u, .bytes b t], []⟩) (.val (Value.notImplemented)) :=
  .of_wp fun M A E s Q h => by have f1 := F.sub_bytes_str; obtain ⟨hp, g, d, tk, os⟩ := s; wp_walk; exact ⟨_, rfl, h⟩
theorem gives_bytes_none (b : Array UInt8) (t : Tok) : Gives («bytes.__eq__» ⟨[.bytes b t, .none], []⟩) (.val (Value.notImplemented)) := by
  refine .of_wp fun M A E s Q hq => ?_
  refine wpAny_bind (wpAny_of_eq (a := (Value.bytes b t, [Value.none])) rfl ?_)
  refine wpAny_bind (wpAny_isInstance (T := "NoneType") rfl sub_NoneType_bytes ?_)
  rw [if_pos (by rfl)]
  exact wpAny_bind (wpAny_rule (wpAny_pure ⟨_, rfl, hq⟩))
theorem gives_bytes_str (b : Array UInt8) (t : Tok) (a : Str) (u : Tok) : Gives («bytes.__eq__» ⟨[.bytes b t, .str a u], []⟩) (.val (Value.notImplemented)) := by
  refine .of_wp fun M A E s Q hq => ?_
  refine wpAny_bind (wpAny_of_eq (a := (Value.bytes b t, [Value.str a u])) rfl ?_)
  refine wpAny_bind (wpAny_isInstance (typeIs_str s a u) sub_str_bytes ?_)
  rw [if_pos (by rfl)]
  exact wpAny_bind (wpAny_rule (wpAny_pure ⟨_, rfl, hq⟩))
section
variable {prog : Program} {w : World} {A : Around} {E : Value → Shared → Prop} {s : Shared} {Q : Value → Shared → Prop}
theorem rc_none_bytes {b : Array UInt8} {t : Tok} (h : Q (.bool false) s) : wpAny (model prog w) A (richCompare .Eq .none (.bytes b t)) Q E s :=
  EqNone.wpAny_richCompare_eq_decline (k := false) (fun _ => rfl) (fun s' => typeIs_bytes s' b t) (by decide) sub_bytes_NoneType F.slot_NoneType_eq slot_bytes_eq_refl rfl
    (call_gives F.slot_NoneType_eq rfl F.entry_NoneType_eq (F.args_NoneType_eq_2 _ _) (gives_none_bytes b t)
      ⟨rfl, call_gives slot_bytes_eq_refl (typeIs_bytes s b t) FB.entry_bytes_eq (FB.args_bytes_eq_2 _ _) (gives_bytes_none b t) ⟨rfl, h⟩⟩)
theorem rc_bytes_none {b : Array UInt8} {t : Tok} (h : Q (.bool false) s) : wpAny (model prog w) A (richCompare .Eq (.bytes b t) .none) Q E s :=
  EqNone.wpAny_richCompare_eq_decline (k := false) (fun s' => typeIs_bytes s' b t) (fun _ => rfl) (by decide) sub_NoneType_bytes FB.slot_bytes_eq F.slot_NoneType_eq_refl rfl
    (call_gives FB.slot_bytes_eq (typeIs_bytes s b t) FB.entry_bytes_eq (FB.args_bytes_eq_2 _ _) (gives_bytes_none b t)
      ⟨rfl, call_gives F.slot_NoneType_eq_refl rfl F.entry_NoneType_eq (F.args_NoneType_eq_2 _ _) (gives_none_bytes b t) ⟨rfl, h⟩⟩)
theorem rc_bytes_str {b : Array UInt8} {t : Tok} {a : Str} {u : Tok} (h : Q (.bool false) s) : wpAny (model prog w) A (richCompare .Eq (.bytes b t) (.str a u)) Q E s :=
  EqNone.wpAny_richCompare_eq_decline (k := false) (fun s' => typeIs_bytes s' b t) (fun s' => typeIs_str s' a u) (by decide) sub_str_bytes FB.slot_bytes_eq F.slot_str_eq_refl rfl
    (call_gives FB.slot_bytes_eq (typeIs_bytes s b t) FB.entry_bytes_eq (FB.args_bytes_eq_2 _ _) (gives_bytes_str b t a u)
      ⟨rfl, call_gives F.slot_str_eq_refl (typeIs_str s a u) F.entry_str_eq (F.args_str_eq_2 _ _) (gives_str_bytes a u b t) ⟨rfl, h⟩⟩)
theorem eq_none_bytes {b : Array UInt8} {t : Tok} (h : Q (.bool false) s) : wpAny (model prog w) A (compareOp .Eq .none (.bytes b t)) Q E s := by
  show wpAny _ A (richCompare .Eq _ _) Q E s
  exact rc_none_bytes h
theorem eq_bytes_str {b : Array UInt8} {t : Tok} {a : Str} {u : Tok} (h : Q (.bool false) s) : wpAny (model prog w) A (compareOp .Eq (.bytes b t) (.str a u)) Q E s := by
  show wpAny _ A (richCompare .Eq _ _) Q E s
  exact rc_bytes_str h
theorem eqBool_none_bytes {b : Array UInt8} {t : Tok} {Q : Bool → Shared → Prop} (h : Q false s) : wpAny (model prog w) A (eqBool .none (.bytes b t)) Q E s := by
  unfold eqBool
  refine wpAny_holding ?_
  rw [if_neg (by simp)]
  refine wpAny_bind ?_
  exact rc_none_bytes (wpAny_truthy_bool h)
theorem eqBool_bytes_none {b : Array UInt8} {t : Tok} {Q : Bool → Shared → Prop} (h : Q false s) : wpAny (model prog w) A (eqBool (.bytes b t) .none) Q E s := by
  unfold eqBool
  refine wpAny_holding ?_
  rw [if_neg (by simp)]
  refine wpAny_bind ?_
  exact rc_bytes_none (wpAny_truthy_bool h)
theorem eqBool_none_none {Q : Bool → Shared → Prop} (h : Q true s) : wpAny (model prog w) A (eqBool .none .none) Q E s := by
  unfold eqBool
  refine wpAny_holding ?_
  rw [if_pos (by rfl)]
  exact wpAny_bind (wpAny_rule (wpAny_pure h))
end
def isBN (k : Option (List UInt8)) (v : Value) : Bool := match k, v with
  | none, .none => true
  | some k, .bytes b _ => b.toList == k
  | _, _ => false
theorem isBN_none {v : Value} (h : isBN none v = true) : v = .none := by
  cases v <;> simp [isBN] at h ⊢
theorem isBN_some {k : List UInt8} {v : Value} (h : isBN (some k) v = true) : ∃ t, v = .bytes k.toArray t := by
  cases v <;> simp only [isBN, Bool.false_eq_true, beq_iff_eq] at h
  subst h; exact ⟨_, rfl⟩
def bnHash (P : Params) : Option (List UInt8) → Int
  | none => 0xFCA86420
  | some k => hashW P (.bytes k)
def bnKind (prog : Program) (w : World) : KeyKind prog w (Option (List UInt8)) where
  is := isBN
  hash := bnHash w.params
  inj v a b ha hb := by
    cases a with
    | none =>
      cases isBN_none ha
      cases b with
      | none => rfl
      | some b => obtain ⟨t, e⟩ := isBN_some hb; cases e
    | some a =>
      obtain ⟨t, rfl⟩ := isBN_some ha
      cases b with
      | none => cases isBN_none hb
      | some b => simp [isBN] at hb; rw [hb]
  byValue k v h := by
    cases k with
    | none => cases isBN_none h; rfl
    | some k => obtain ⟨t, rfl⟩ := isBN_some h; rfl
  pyHash := fun {A E s k v Q} hv h => by
    cases k with
    | none =>
      cases isBN_none hv
      refine pyHash_slot (T := "NoneType") rfl F.slot_NoneType_hash F.entry_NoneType_hash (F.args_NoneType_hash_1 _) (beq_builtin_none _) (.inl rfl) ?_
      refine wpAny_bind (wpAny_of_eq (a := (Value.none, [])) rfl ?_)
      refine wpAny_bind (wpAny_mkInt (wpAny_pure ⟨_, _, rfl, ?_⟩))
      have e : reduceHash 4238894112 = 0xFCA86420 := by decide +kernel
      rw [e]
      exact h
    | some k =>
      obtain ⟨t, rfl⟩ := isBN_some hv
      exact (bytesKind prog w).pyHash (k := k) (v := .bytes k.toArray t) (by show (k.toArray.toList == k) = true; simp) h
  eqBool := fun {A E s a b u v Q} hu hv h => by
    cases a with
    | none =>
      cases isBN_none hu
      cases b with
      | none => cases isBN_none hv; exact eqBool_none_none h
      | some b => obtain ⟨t, rfl⟩ := isBN_some hv; exact eqBool_none_bytes h
    | some a =>
      obtain ⟨t, rfl⟩ := isBN_some hu
      cases b with
      | none => cases isBN_none hv; exact eqBool_bytes_none h
      | some b =>
        obtain ⟨u, rfl⟩ := isBN_some hv
        refine eqBool_bytes ?_
        have e : decide (a.toArray.toList = b.toArray.toList) = decide (some a = some b) := by simp
        rw [e]; exact h
  «strs» k x t v h := by cases k <;> cases h
theorem bn_bytes {prog : Program} {w : World} {b : Array UInt8} {t : Tok} : (bnKind prog w).is (some b.toList) (.bytes b t) = true := by
  show (b.toList == b.toList) = true
  simp
theorem bn_none {prog : Program} {w : World} : (bnKind prog w).is none .none = true := rfl
end
section
open Builtin
def inL : List UInt8 → List UInt8
  | [] => []
  | c :: r => if c = 13 ∧ r.head? = some 10 then inL r else c :: inL r
def outL : Bool → List UInt8 → List UInt8
  | _, [] => []
  | p, c :: r => if c = 10 ∧ p = false then 13 :: c :: outL (c == 13) r else c :: outL (c == 13) r
def hasL (x : List UInt8) : List UInt8 → Bool
  | [] => x.isPrefixOf []
  | c :: r => x.isPrefixOf (c :: r) || hasL x r
def inA (b : Array UInt8) : Array UInt8 := (inL b.toList).toArray
def outA (b : Array UInt8) : Array UInt8 := (outL false b.toList).toArray
def hasA (x b : Array UInt8) : Bool := hasL x.toList b.toList
def cutA (b : Array UInt8) (lo hi : Option Int) : Array UInt8 := ((b.toList.drop (lo.elim 0 (clipAt b.size))).take (hi.elim b.size (clipAt b.size) - lo.elim 0 (clipAt b.size))).toArray
theorem cutA_size (b : Array UInt8) (lo hi : Option Int) : (cutA b lo hi).size ≤ b.size := by
  unfold cutA
  rw [List.size_toArray, List.length_take, List.length_drop, Array.length_toList]; omega
section
variable {prog : Program} {w : World} {A : Around} {E : Value → Shared → Prop} {s : Shared} {value slice : PySem.Expr} {b : Array UInt8} {t : Tok} {h₀ : Heap} {L : Addr} {m : PySem.Str → Option Value} {news : List (Addr × Obj)} {l u : Value} {lo hi : Option Int} {Q : Value → Shared → Prop} {i : Int}
theorem slice_J (hF : Fr h₀ L s.heap m) (hN : News h₀ L s.heap news) (hl : IsPart l lo) (hu : IsPart u hi) (hz : b.size ≤ 16777216)
    (h : ∀ h' t' k, Fr h₀ L h' m → News h₀ L h' news → (cutA b lo hi).size ≤ b.size → Q (.bytes (cutA b lo hi) t') { s with heap := h', toks := k })
    (hs : subscripted slice false (.bytes b t) (.ref s.heap.objs.size) = operate [.ref s.heap.objs.size, .bytes b t] (getItem (.bytes b t) (.ref s.heap.objs.size)) := by with_unfolding_all rfl)
    (ht : ∀ r, letTemporaryGo value (.bytes b t) r = pure () := by intro _; with_unfolding_all rfl) :
    wpAny (model prog w) A (subscriptTail value slice (.bytes b t) (.ref s.heap.objs.size)) Q E { s with heap := s.heap.push { cls := .type "slice", data := .fields #[l, u, .none] } } := by
  refine KBc.slice_K hF hN rfl hl hu (by rw [KBw.ints_length]; exact hz) (fun h' t' k F' N' _ => ?_) hs ht
  have e : KBy.picked b lo hi = cutA b lo hi := KBc.picked_eq b lo hi
  rw [e]
  exact h h' t' k F' N' (cutA_size b lo hi)
theorem item_J {ui : Tok} (hfit : b.size ≤ 1099511627776) (h0 : 0 ≤ i) (h1 : i < b.size) (h : ∀ t' k, Q (.int (b.toList.getD i.toNat 0).toNat t') { s with toks := k })
    (hs : subscripted slice false (.bytes b t) (.int i ui) = operate [.bytes b t, .int i ui] (getItem (.bytes b t) (.int i ui)) := by with_unfolding_all rfl)
    (ht : ∀ r, letTemporaryGo value (.bytes b t) r = pure () := by intro _; with_unfolding_all rfl) :
    wpAny (model prog w) A (subscriptTail value slice (.bytes b t) (.int i ui)) Q E s := by
  refine tail_of_ItemOn ⟨"bytes", _, FB.slot_bytes_getitem.lookup, typeIs_bytes _ _ _, ?_⟩ hs ht
  have g := getItem_bytes (prog := prog) (w := w) (A := A) (E := E) (s := s) (l := b.toList) (t := t) (u := ui) (i := i) (Q := Q) (by rw [Array.length_toList]; exact hfit) h0 (by rw [Array.length_toList]; exact h1) (h _ _)
  rw [Array.toArray_toList] at g
  exact g
theorem method_replace {M : Model} {pl : Sem Bool} {Q : Value × List Value → Shared → Prop} (h : Q (.builtin "bytes.replace", [.bytes b t]) s) : wpAny M A (getMethod (.bytes b t) "replace" pl) Q E s := by
  with_reducible exact KBd.method_of (.bytes b t) (typeIs_bytes _ _ _) slot_replace type_replace KBd.noRef h
theorem method_split {M : Model} {pl : Sem Bool} {Q : Value × List Value → Shared → Prop} (h : Q (.builtin "bytes.split", [.bytes b t]) s) : wpAny M A (getMethod (.bytes b t) "split" pl) Q E s := by
  with_reducible exact KBd.method_of (.bytes b t) (typeIs_bytes _ _ _) slot_split type_split KBd.noRef h
theorem method_join {M : Model} {pl : Sem Bool} {Q : Value × List Value → Shared → Prop} (h : Q (.builtin "bytes.join", [.bytes b t]) s) : wpAny M A (getMethod (.bytes b t) "join" pl) Q E s := by
  with_reducible exact KBd.method_of (.bytes b t) (typeIs_bytes _ _ _) slot_join type_join KBd.noRef h
theorem method_endswith {M : Model} {pl : Sem Bool} {Q : Value × List Value → Shared → Prop} (h : Q (.builtin "bytes.endswith", [.bytes b t]) s) : wpAny M A (getMethod (.bytes b t) "endswith" pl) Q E s := by
  with_reducible exact KBd.method_of (.bytes b t) (typeIs_bytes _ _ _) FB.slot_bytes_endswith FB.type_bytes_endswith KBd.noRef h
end
end
section
open Builtin
abbrev B8 := UInt8
theorem toList_extract (b : Array UInt8) (i j : Nat) : (b.extract i j).toList = (b.toList.drop i).take (j - i) := by
  rw [Array.toList_extract, List.extract_eq_take_drop]
theorem beq_toList (a b : Array UInt8) : (a == b) = (a.toList == b.toList) := by
  rw [Bool.eq_iff_iff]; simp [Array.toList_inj]
theorem take_prefix (c l : List UInt8) : (l.take c.length == c) = c.isPrefixOf l := by
  rw [Bool.eq_iff_iff, beq_iff_eq, List.isPrefixOf_iff_prefix, List.prefix_iff_eq_take]
  exact eq_comm
theorem ext_prefix (b c : Array UInt8) (i : Nat) : (b.extract i (i + c.size) == c) = c.toList.isPrefixOf (b.toList.drop i) := by
  rw [beq_toList, toList_extract, Nat.add_sub_cancel_left, ← Array.length_toList, take_prefix]
theorem hasL_iff (x : List UInt8) : ∀ l : List UInt8, hasL x l = true ↔ ∃ i, i ≤ l.length ∧ x.isPrefixOf (l.drop i) = true
  | [] => by
    simp only [hasL]
    constructor
    · intro h; exact ⟨0, Nat.le_refl _, h⟩
    · rintro ⟨i, _, h⟩; simpa using h
  | c :: r => by
    simp only [hasL, Bool.or_eq_true, hasL_iff x r]
    constructor
    · rintro (h | ⟨i, hi, h⟩)
      · exact ⟨0, Nat.zero_le _, h⟩
      · exact ⟨i + 1, by simp; omega, by simpa using h⟩
    · rintro ⟨i, hi, h⟩
      cases i with
      | zero => exact .inl h
      | succ i => exact .inr ⟨i, by simp at hi; omega, by simpa using h⟩
theorem prefix_len {x l : List UInt8} (h : x.isPrefixOf l = true) : x.length ≤ l.length := (List.isPrefixOf_iff_prefix.mp h).length_le
theorem find_has (b x : Array UInt8) (hx : 0 < x.size) : (Bytes.find? b x 0 b.size).isSome = hasA x b := by
  rw [Bool.eq_iff_iff, hasA, hasL_iff]
  unfold Bytes.find?
  rw [List.find?_isSome]
  simp only [ext_prefix]
  constructor
  · rintro ⟨i, hi, h⟩
    refine ⟨i, ?_, h⟩
    have := prefix_len h
    rw [List.length_drop, Array.length_toList, Array.length_toList] at this
    rw [Array.length_toList]; omega
  · rintro ⟨i, hi, h⟩
    refine ⟨i, ?_, h⟩
    have := prefix_len h
    rw [List.length_drop, Array.length_toList, Array.length_toList] at this
    rw [List.mem_map]
    exact ⟨i, by rw [List.mem_range]; omega, by omega⟩
def occL (c : List UInt8) : List UInt8 → Nat → Nat → List Nat
  | [], _, _ => []
  | _ :: r, i, k + 1 => occL c r (i + 1) k
  | x :: r, i, 0 => if c.isPrefixOf (x :: r) = true then i :: occL c r (i + 1) (c.length - 1) else occL c r (i + 1) 0
theorem occL_len (c : List UInt8) : ∀ (xs : List UInt8) (i k : Nat), (occL c xs i k).length ≤ xs.length
  | [], _, _ => Nat.le_refl _
  | _ :: r, i, k + 1 => Nat.le_succ_of_le (occL_len c r (i + 1) k)
  | x :: r, i, 0 => by
    unfold occL
    split
    · exact Nat.succ_le_succ (occL_len c r _ _)
    · exact Nat.le_succ_of_le (occL_len c r _ _)
theorem occL_short (c : List UInt8) : ∀ (xs : List UInt8) (i k : Nat), xs.length < c.length → occL c xs i k = []
  | [], _, _, _ => rfl
  | _ :: r, i, k + 1, h => occL_short c r (i + 1) k (by simp at h; omega)
  | x :: r, i, 0, h => by
    unfold occL
    rw [if_neg (fun e => by have := prefix_len e; omega)]
    exact occL_short c r (i + 1) 0 (by simp at h; omega)
def occStep (b c : Array UInt8) (acc : List Nat × Nat) (i : Nat) : List Nat × Nat :=
  if i ≥ acc.2 && b.extract i (i + c.size) == c then (i :: acc.1, i + c.size) else acc
theorem occ_fold (b c : Array UInt8) (hc : 0 < c.size) : ∀ (xs : List UInt8) (i : Nat) (acc : List Nat) (nxt : Nat), b.toList.drop i = xs →
    ((List.range' i (b.size + 1 - c.size - i)).foldl (occStep b c) (acc, nxt)).1.reverse = acc.reverse ++ occL c.toList xs i (nxt - i)
  | [], i, acc, nxt, h => by
    have : b.toList.length ≤ i := List.drop_eq_nil_iff.mp h
    rw [Array.length_toList] at this
    have e : b.size + 1 - c.size - i = 0 := by omega
    rw [e]; simp [occL]
  | x :: r, i, acc, nxt, h => by
    have hl : (b.toList.drop i).length = (x :: r).length := by rw [h]
    rw [List.length_drop, Array.length_toList, List.length_cons] at hl
    have hr : b.toList.drop (i + 1) = r := by
      rw [← List.drop_drop, h]; rfl
    by_cases hm : i < b.size + 1 - c.size
    · have e : b.size + 1 - c.size - i = (b.size + 1 - c.size - (i + 1)) + 1 := by omega
      rw [e, List.range'_succ, List.foldl_cons]
      have hp : (b.extract i (i + c.size) == c) = c.toList.isPrefixOf (x :: r) := by rw [ext_prefix, h]
      by_cases hn : nxt ≤ i
      · have e0 : nxt - i = 0 := by omega
        rw [e0]
        unfold occL
        by_cases hx : c.toList.isPrefixOf (x :: r) = true
        · rw [if_pos hx]
          have es : occStep b c (acc, nxt) i = (i :: acc, i + c.size) := by
            unfold occStep
            rw [if_pos (by simp only [hp, hx, Bool.and_true]; exact decide_eq_true hn)]
          rw [es, occ_fold b c hc r (i + 1) _ _ hr]
          have e2 : i + c.size - (i + 1) = c.toList.length - 1 := by rw [Array.length_toList]; omega
          rw [e2]; simp
        · rw [if_neg hx]
          have es : occStep b c (acc, nxt) i = (acc, nxt) := by
            unfold occStep
            rw [if_neg (by simp only [hp]; simp [hx])]
          rw [es, occ_fold b c hc r (i + 1) _ _ hr]
          have e2 : nxt - (i + 1) = 0 := by omega
          rw [e2]
      · have es : occStep b c (acc, nxt) i = (acc, nxt) := by
          unfold occStep
          rw [if_neg (by simp; omega)]
        rw [es, occ_fold b c hc r (i + 1) _ _ hr]
        have e2 : nxt - i = (nxt - (i + 1)) + 1 := by omega
        rw [e2]; rfl
    · have e : b.size + 1 - c.size - i = 0 := by omega
      rw [e]
      rw [occL_short _ _ _ _ (by rw [List.length_cons]; have hcl : c.toList.length = c.size := Array.length_toList; omega)]
      simp
theorem occ_eq (b c : Array UInt8) (hc : 0 < c.size) : Bytes.occurrences b c 0 b.size = occL c.toList b.toList 0 0 := by
  have h := occ_fold b c hc b.toList 0 [] 0 rfl
  unfold Bytes.occurrences
  have e : (List.range (b.size + 1 - (0 + c.size))).map (· + 0) = List.range' 0 (b.size + 1 - c.size - 0) := by
    rw [List.range_eq_range']; simp
  rw [e]
  simp only [List.reverse_nil, List.nil_append] at h
  exact h
def splitL (c : List UInt8) : List UInt8 → List UInt8 → Nat → List (List UInt8)
  | [], cur, _ => [cur.reverse]
  | _ :: r, cur, k + 1 => splitL c r cur k
  | x :: r, cur, 0 => if c.isPrefixOf (x :: r) = true then cur.reverse :: splitL c r [] (c.length - 1) else splitL c r (x :: cur) 0
def cutStep (b : Array UInt8) (w : Nat) (st : Array (Array UInt8) × Nat) (p : Nat) : Array (Array UInt8) × Nat := (st.1.push (b.extract st.2 p), p + w)
def cutEnd (b : Array UInt8) (st : Array (Array UInt8) × Nat) : List (List UInt8) := (st.1.push (b.extract st.2 b.size)).toList.map (·.toList)
theorem cut_fold (b : Array UInt8) (c : List UInt8) (hc : 0 < c.length) : ∀ (xs : List UInt8) (i : Nat) (parts : Array (Array UInt8)) (last : Nat) (cur : List UInt8), b.toList.drop i = xs → cur.reverse = (b.toList.drop last).take (i - last) →
    cutEnd b ((occL c xs i (last - i)).foldl (cutStep b c.length) (parts, last)) = parts.toList.map (·.toList) ++ splitL c xs cur (last - i)
  | [], i, parts, last, cur, h, hcur => by
    have hi : b.toList.length ≤ i := List.drop_eq_nil_iff.mp h
    simp only [occL, List.foldl_nil, cutEnd, splitL, Array.toList_push, List.map_append, List.map_cons, List.map_nil, toList_extract, hcur]
    rw [List.take_of_length_le (by rw [List.length_drop, Array.length_toList]; omega), List.take_of_length_le (by rw [List.length_drop]; omega)]
  | x :: r, i, parts, last, cur, h, hcur => by
    have hr : b.toList.drop (i + 1) = r := by
      rw [← List.drop_drop, h]; rfl
    by_cases hn : last ≤ i
    · have e0 : last - i = 0 := by omega
      rw [e0]
      unfold occL splitL
      by_cases hx : c.isPrefixOf (x :: r) = true
      · rw [if_pos hx, if_pos hx, List.foldl_cons]
        have es : cutStep b c.length (parts, last) i = (parts.push (b.extract last i), i + c.length) := rfl
        have e2 : c.length - 1 = i + c.length - (i + 1) := by omega
        rw [es, e2, cut_fold b c hc r (i + 1) _ _ [] hr (by rw [show i + 1 - (i + c.length) = 0 by omega]; rfl)]
        simp [toList_extract, hcur]
      · rw [if_neg hx, if_neg hx]
        have e2 : 0 = last - (i + 1) := by omega
        rw [e2]
        refine cut_fold b c hc r (i + 1) _ _ (x :: cur) hr ?_
        have e3 : i + 1 - last = (i - last) + 1 := by omega
        rw [List.reverse_cons, hcur, e3, List.take_add_one, List.getElem?_drop]
        have e4 : last + (i - last) = i := by omega
        have e5 : b.toList[i]? = some x := by
          have : (b.toList.drop i)[0]? = some x := by rw [h]; rfl
          rwa [List.getElem?_drop, Nat.add_zero] at this
        rw [e4, e5]; rfl
    · have e2 : last - i = (last - (i + 1)) + 1 := by omega
      rw [e2]
      have e3 : i - last = 0 := by omega
      rw [e3, List.take_zero] at hcur
      have e4 : cur = [] := by simpa using hcur
      subst e4
      show cutEnd b ((occL c r (i + 1) (last - (i + 1))).foldl (cutStep b c.length) (parts, last)) = _ ++ splitL c r [] (last - (i + 1))
      exact cut_fold b c hc r (i + 1) _ _ [] hr (by rw [show i + 1 - last = 0 by omega]; rfl)
theorem between_eq (b c : Array UInt8) (hc : 0 < c.size) : (Bytes.between b c.size (Bytes.occurrences b c 0 b.size)).map (·.toList) = splitL c.toList b.toList [] 0 := by
  rw [occ_eq b c hc]
  have h := cut_fold b c.toList (by rw [Array.length_toList]; exact hc) b.toList 0 #[] 0 [] rfl rfl
  rw [Array.length_toList] at h
  simp only [List.map_nil, List.nil_append] at h
  exact h
def joinL (s : List UInt8) : List (List UInt8) → List UInt8
  | [] => []
  | p :: r => p ++ r.flatMap fun q => s ++ q
theorem joined_tail (sep : Array UInt8) : ∀ (ps : List (Array UInt8)) (n : Nat) (out : Array UInt8), 0 < n →
    ((ps.zipIdx n).foldl (fun out (x : Array UInt8 × Nat) => (if x.2 > 0 then out ++ sep else out) ++ x.1) out).toList = out.toList ++ (ps.map (·.toList)).flatMap fun q => sep.toList ++ q
  | [], _, _, _ => by simp
  | p :: r, n, out, h => by
    rw [List.zipIdx_cons, List.foldl_cons, joined_tail sep r (n + 1) _ (Nat.succ_pos _)]
    simp [h]
theorem joined_eq (sep : Array UInt8) (ps : List (Array UInt8)) : (Bytes.joined sep ps).toList = joinL sep.toList (ps.map (·.toList)) := by
  cases ps with
  | nil => rfl
  | cons p r =>
    unfold Bytes.joined
    rw [List.zipIdx_cons, List.foldl_cons]
    have h := joined_tail sep r 1 (#[] ++ p) Nat.one_pos
    simpa [joinL] using h
theorem splitL_ne (c : List UInt8) : ∀ (xs cur : List UInt8) (k : Nat), splitL c xs cur k ≠ []
  | [], _, _ => by simp [splitL]
  | _ :: r, cur, k + 1 => splitL_ne c r cur k
  | x :: r, cur, 0 => by
    unfold splitL
    split
    · simp
    · exact splitL_ne c r _ 0
theorem joinL_cons (s p : List UInt8) {L : List (List UInt8)} (h : L ≠ []) : joinL s (p :: L) = p ++ (s ++ joinL s L) := by
  cases L with
  | nil => exact absurd rfl h
  | cons q r => simp [joinL]
theorem inL_cons_no {c : UInt8} {r : List UInt8} (h : ¬ (c = 13 ∧ r.head? = some 10)) : inL (c :: r) = c :: inL r := by
  rw [inL, if_neg h]
theorem inL_crlf (r : List UInt8) : inL (13 :: 10 :: r) = 10 :: inL r := by
  rw [inL, if_pos ⟨rfl, rfl⟩, inL_cons_no (by simp)]
theorem pre_crlf (x : UInt8) (r : List UInt8) : ([13, 10] : List UInt8).isPrefixOf (x :: r) = true ↔ x = 13 ∧ r.head? = some 10 := by
  cases r with
  | nil => simp
  | cons y r =>
    simp only [List.isPrefixOf, Bool.and_true, Bool.and_eq_true, beq_iff_eq, List.head?_cons, Option.some.injEq]
    constructor <;> rintro ⟨a, b⟩ <;> exact ⟨a.symm, b.symm⟩
theorem join_in : ∀ (n : Nat) (xs cur : List UInt8), xs.length ≤ n → joinL [10] (splitL [13, 10] xs cur 0) = cur.reverse ++ inL xs
  | _, [], cur, _ => by simp [splitL, joinL, inL]
  | 0, _ :: _, _, h => by simp at h
  | n + 1, x :: r, cur, h => by
    by_cases hx : x = 13 ∧ r.head? = some 10
    · obtain ⟨rfl, h10⟩ := hx
      cases r with
      | nil => simp at h10
      | cons y r =>
        have hy : y = 10 := by simpa using h10
        subst hy
        rw [splitL, if_pos (by rw [pre_crlf]; exact ⟨rfl, rfl⟩), inL_crlf]
        show joinL [10] (cur.reverse :: splitL [13, 10] r [] 0) = _
        rw [joinL_cons _ _ (splitL_ne _ _ _ _), join_in n r [] (by simp at h; omega)]
        simp
    · rw [splitL, if_neg (by rw [pre_crlf]; exact hx), inL_cons_no hx, join_in n r _ (by simp at h; omega)]
      simp
theorem repl_in (b : Array UInt8) : replA b #[13, 10] #[10] = inA b := by
  apply Array.toList_inj.mp
  unfold replA inA
  rw [joined_eq, between_eq b #[13, 10] (by decide)]
  exact (join_in b.toList.length b.toList [] (Nat.le_refl _)).trans (by simp)
def stripL (p : List UInt8) : List UInt8 := if p.getLast? = some 13 then p.dropLast else p
def cleanL : List (List UInt8) → List (List UInt8)
  | [] => []
  | [p] => [p]
  | p :: q :: r => stripL p :: cleanL (q :: r)
theorem cleanL_ne {L : List (List UInt8)} (h : L ≠ []) : cleanL L ≠ [] := by
  cases L with
  | nil => exact absurd rfl h
  | cons p r => cases r <;> simp [cleanL]
theorem cleanL_cons (p : List UInt8) {L : List (List UInt8)} (h : L ≠ []) : cleanL (p :: L) = stripL p :: cleanL L := by
  cases L with
  | nil => exact absurd rfl h
  | cons q r => rfl
theorem join_out : ∀ (xs cur : List UInt8), joinL [13, 10] (cleanL (splitL [10] xs cur 0)) = cur.reverse ++ outL (cur.head? == some 13) xs
  | [], cur => by simp [splitL, cleanL, joinL, outL]
  | x :: r, cur => by
    by_cases hx : x = 10
    · subst hx
      rw [splitL, if_pos (by simp)]
      show joinL [13, 10] (cleanL (cur.reverse :: splitL [10] r [] 0)) = _
      rw [cleanL_cons _ (splitL_ne _ _ _ _), joinL_cons _ _ (cleanL_ne (splitL_ne _ _ _ _)), join_out r []]
      have e0 : ((10 : UInt8) == 13) = false := by decide
      cases cur with
      | nil => simp [stripL, outL, e0]
      | cons y cur =>
        by_cases hy : y = 13
        · subst hy
          simp [stripL, outL, e0]
        · simp [stripL, outL, hy, e0]
    · rw [splitL, if_neg (by simp; exact fun e => hx e.symm), join_out r (x :: cur), outL, if_neg (by simp [hx])]
      simp
theorem inL_len : ∀ xs : List UInt8, (inL xs).length ≤ xs.length
  | [] => Nat.le_refl _
  | c :: r => by
    have := inL_len r
    rw [inL]
    split <;> simp <;> omega
theorem outL_len : ∀ (xs : List UInt8) (p : Bool), (outL p xs).length ≤ 2 * xs.length
  | [], _ => Nat.le_refl _
  | c :: r, p => by
    have := outL_len r (c == 13)
    rw [outL]
    split <;> simp <;> omega
theorem inA_size (b : Array UInt8) : (inA b).size ≤ b.size := by
  have := inL_len b.toList
  rw [Array.length_toList] at this
  simpa [inA] using this
theorem outA_size (b : Array UInt8) : (outA b).size ≤ 2 * b.size := by
  have := outL_len b.toList false
  rw [Array.length_toList] at this
  simpa [outA] using this
end
section
open Builtin
def inN (b : Array UInt8) : Nat → Array UInt8
  | 0 => #[]
  | n + 1 => if ((b.toList.getD n 0).toNat : Int) ≠ 13 ∨ (cutA b (some ((n : Int) + 1)) (some ((n : Int) + 2))).toList ≠ [10] then inN b n ++ cutA b (some (n : Int)) (some ((n : Int) + 1)) else inN b n
theorem inN_start (b : Array UInt8) : #[] = inN b ([] : List Int).length ∧ (#[] : Array UInt8).size ≤ ([] : List Int).length * 64 := ⟨rfl, by simp⟩
theorem inN_skip {b : Array UInt8} {kN : Int} {pre : List Int} {out : Array UInt8} (hE : kN = 0 + (pre.length : Int)) (h1 : out = inN b pre.length) (h2 : out.size ≤ pre.length * 64) (h13 : ((b.toList.getD kN.toNat 0).toNat : Int) = 13)
    (hne : ((cutA b (some (kN + 1)) (some (kN + 2))).toList != (#[10] : Array UInt8).toList) = false) : out = inN b (pre ++ [kN]).length ∧ out.size ≤ (pre ++ [kN]).length * 64 := by
  have e : kN = (pre.length : Int) := by omega
  subst e
  rw [List.length_append, List.length_singleton]
  refine ⟨?_, by omega⟩
  rw [inN, if_neg, ← h1]
  rw [Int.toNat_natCast] at h13
  rw [h13]
  simpa using hne
theorem inN_take {b : Array UInt8} {kN : Int} {pre : List Int} {out : Array UInt8} (hE : kN = 0 + (pre.length : Int)) (hz : (cutA b (some kN) (some (kN + 1))).size ≤ b.size) (hb : b.size ≤ 64) (h1 : out = inN b pre.length) (h2 : out.size ≤ pre.length * 64) (h13 : ¬ (((b.toList.getD kN.toNat 0).toNat : Int) = 13)) :
    out ++ cutA b (some kN) (some (kN + 1)) = inN b (pre ++ [kN]).length ∧ (out ++ cutA b (some kN) (some (kN + 1))).size ≤ (pre ++ [kN]).length * 64 := by
  have e : kN = (pre.length : Int) := by omega
  subst e
  rw [List.length_append, List.length_singleton]
  refine ⟨?_, by rw [Array.size_append]; omega⟩
  rw [Int.toNat_natCast] at h13
  rw [inN, if_pos (.inl h13), ← h1]
theorem inN_take2 {b : Array UInt8} {kN : Int} {pre : List Int} {out : Array UInt8} (hE : kN = 0 + (pre.length : Int)) (hz : (cutA b (some kN) (some (kN + 1))).size ≤ b.size) (hb : b.size ≤ 64) (h1 : out = inN b pre.length) (h2 : out.size ≤ pre.length * 64)
    (hne : ((cutA b (some (kN + 1)) (some (kN + 2))).toList != (#[10] : Array UInt8).toList) = true) :
    out ++ cutA b (some kN) (some (kN + 1)) = inN b (pre ++ [kN]).length ∧ (out ++ cutA b (some kN) (some (kN + 1))).size ≤ (pre ++ [kN]).length * 64 := by
  have e : kN = (pre.length : Int) := by omega
  subst e
  rw [List.length_append, List.length_singleton]
  refine ⟨?_, by rw [Array.size_append]; omega⟩
  rw [inN, if_pos (.inr (by simpa using hne)), ← h1]
def outC (b : Array UInt8) (n : Nat) : Bool := ((b.toList.getD n 0).toNat : Int) == 10 && (n == 0 || ((b.toList.getD (n - 1) 0).toNat : Int) != 13)
def outN (b : Array UInt8) : Nat → Array UInt8
  | 0 => #[]
  | n + 1 => (if outC b n = true then outN b n ++ #[13] else outN b n) ++ cutA b (some (n : Int)) (some ((n : Int) + 1))
theorem outN_start (b : Array UInt8) : #[] = outN b ([] : List Int).length ∧ (#[] : Array UInt8).size ≤ ([] : List Int).length * 65 := ⟨rfl, by simp⟩
theorem outN_put {b : Array UInt8} {kN : Int} {pre : List Int} {out : Array UInt8} (hE : kN = 0 + (pre.length : Int)) (hz : (cutA b (some kN) (some (kN + 1))).size ≤ b.size) (hb : b.size ≤ 64) (h1 : out = outN b pre.length) (h2 : out.size ≤ pre.length * 65)
    (hc : outC b kN.toNat = true) : out ++ #[13] ++ cutA b (some kN) (some (kN + 1)) = outN b (pre ++ [kN]).length ∧ (out ++ #[13] ++ cutA b (some kN) (some (kN + 1))).size ≤ (pre ++ [kN]).length * 65 := by
  have e : kN = (pre.length : Int) := by omega
  subst e
  rw [List.length_append, List.length_singleton]
  refine ⟨?_, by rw [Array.size_append, Array.size_append]; simp only [List.size_toArray, List.length_cons, List.length_nil]; omega⟩
  rw [Int.toNat_natCast] at hc
  rw [outN, if_pos hc, ← h1]
theorem outN_no {b : Array UInt8} {kN : Int} {pre : List Int} {out : Array UInt8} (hE : kN = 0 + (pre.length : Int)) (hz : (cutA b (some kN) (some (kN + 1))).size ≤ b.size) (hb : b.size ≤ 64) (h1 : out = outN b pre.length) (h2 : out.size ≤ pre.length * 65)
    (hc : outC b kN.toNat = false) : out ++ cutA b (some kN) (some (kN + 1)) = outN b (pre ++ [kN]).length ∧ (out ++ cutA b (some kN) (some (kN + 1))).size ≤ (pre ++ [kN]).length * 65 := by
  have e : kN = (pre.length : Int) := by omega
  subst e
  rw [List.length_append, List.length_singleton]
  refine ⟨?_, by rw [Array.size_append]; omega⟩
  rw [Int.toNat_natCast] at hc
  rw [outN, if_neg (by rw [hc]; exact Bool.false_ne_true), ← h1]
theorem outC_a {b : Array UInt8} {k : Int} (h : ((b.toList.getD k.toNat 0).toNat : Int) = 10) (h0 : k = 0) : outC b k.toNat = true := by
  subst h0
  simp only [outC, h]; simp
theorem outC_b {b : Array UInt8} {k : Int} (h : ((b.toList.getD k.toNat 0).toNat : Int) = 10) (hk : 0 ≤ k) (h0 : ¬ k = 0) (h1 : ¬ ((b.toList.getD (k - 1).toNat 0).toNat : Int) = 13) : outC b k.toNat = true := by
  have e : (k - 1).toNat = k.toNat - 1 := by omega
  rw [e] at h1
  simp only [outC, h, Bool.and_eq_true, Bool.or_eq_true, bne_iff_ne, ne_eq, beq_iff_eq]
  exact ⟨trivial, .inr h1⟩
theorem outC_c {b : Array UInt8} {k : Int} (h : ¬ ((b.toList.getD k.toNat 0).toNat : Int) = 10) : outC b k.toNat = false := by
  simp only [outC, Bool.and_eq_false_iff, beq_eq_false_iff_ne]
  exact .inl h
theorem outC_d {b : Array UInt8} {k : Int} (hk : 0 ≤ k) (h0 : ¬ k = 0) (h1 : ((b.toList.getD (k - 1).toNat 0).toNat : Int) = 13) : outC b k.toNat = false := by
  have e : (k - 1).toNat = k.toNat - 1 := by omega
  rw [e] at h1
  have e2 : k.toNat ≠ 0 := by omega
  simp only [outC, h1]
  simp [e2]
theorem cut1 (b : Array UInt8) (i : Nat) : (cutA b (some (i : Int)) (some ((i : Int) + 1))).toList = (b.toList.drop i).take 1 := by
  unfold cutA
  simp only [Option.elim]
  rw [show ((i : Int) + 1) = ((i + 1 : Nat) : Int) by omega, clipAt_nat, clipAt_nat]
  have hl : b.toList.length = b.size := Array.length_toList
  by_cases h : i < b.size
  · rw [show min i b.size = i by omega, show min (i + 1) b.size - i = 1 by omega]
  · rw [show min i b.size = b.size by omega, List.drop_of_length_le (by omega), List.drop_of_length_le (by omega)]
    simp
theorem toNat_is (x : UInt8) (k : Nat) (hk : k < 256) : ((x.toNat : Nat) : Int) = (k : Int) ↔ x = UInt8.ofNat k := by
  constructor
  · intro h
    apply UInt8.toNat_inj.mp
    rw [UInt8.toNat_ofNat']
    omega
  · intro h
    subst h
    rw [UInt8.toNat_ofNat']
    omega
theorem inN_run (b : Array UInt8) : ∀ n, n ≤ b.size → (inN b n).toList ++ inL (b.toList.drop n) = inL b.toList
  | 0, _ => by simp [inN]
  | n + 1, h => by
    have ih := inN_run b n (by omega)
    have hl : b.toList.length = b.size := Array.length_toList
    have hlt : n < b.toList.length := by omega
    have hd : b.toList.drop n = b.toList[n] :: b.toList.drop (n + 1) := List.drop_eq_getElem_cons hlt
    have hg : b.toList.getD n 0 = b.toList[n] := by rw [List.getD_eq_getElem?_getD, List.getElem?_eq_getElem hlt]; rfl
    rw [← ih, hd, inN]
    have c2 : (cutA b (some ((n : Int) + 1)) (some ((n : Int) + 2))).toList = (b.toList.drop (n + 1)).take 1 := by
      have := cut1 b (n + 1)
      rw [show (((n + 1 : Nat) : Int)) = (n : Int) + 1 by omega, show (n : Int) + 1 + 1 = (n : Int) + 2 by omega] at this
      exact this
    have hh : (b.toList.drop (n + 1)).take 1 = [10] ↔ (b.toList.drop (n + 1)).head? = some 10 := by
      cases b.toList.drop (n + 1) <;> simp
    have h13 : (((b.toList.getD n 0).toNat : Nat) : Int) = 13 ↔ b.toList[n] = 13 := by rw [hg]; exact toNat_is _ 13 (by decide)
    by_cases hx : b.toList[n] = 13 ∧ (b.toList.drop (n + 1)).head? = some 10
    · rw [if_neg (by rw [c2]; rintro (e | e); exact e (h13.mpr hx.1); exact e (hh.mpr hx.2)), inL, if_pos hx]
    · rw [if_pos (by rw [c2, Ne, Ne, hh, h13]; exact Decidable.not_and_iff_not_or_not.mp hx), inL_cons_no hx, Array.toList_append, cut1, hd]
      simp
theorem inN_all (b : Array UInt8) : inN b b.size = inA b := by
  apply Array.toList_inj.mp
  have h := inN_run b b.size (Nat.le_refl _)
  rw [List.drop_of_length_le (by rw [Array.length_toList]; exact Nat.le_refl _)] at h
  simpa [inL, inA] using h
theorem outN_run (b : Array UInt8) : ∀ n, n ≤ b.size → (outN b n).toList ++ outL (n != 0 && b.toList.getD (n - 1) 0 == 13) (b.toList.drop n) = outL false b.toList
  | 0, _ => by simp [outN]
  | n + 1, h => by
    have ih := outN_run b n (by omega)
    have hl : b.toList.length = b.size := Array.length_toList
    have hlt : n < b.toList.length := by omega
    have hd : b.toList.drop n = b.toList[n] :: b.toList.drop (n + 1) := List.drop_eq_getElem_cons hlt
    have hg : b.toList.getD n 0 = b.toList[n] := by rw [List.getD_eq_getElem?_getD, List.getElem?_eq_getElem hlt]; rfl
    rw [← ih, hd, outN, outL]
    have e1 : (n + 1 != 0 && b.toList.getD (n + 1 - 1) 0 == 13) = (b.toList[n] == 13) := by
      rw [Nat.add_sub_cancel, hg]; simp
    rw [e1]
    have hc : outC b n = true ↔ (b.toList[n] = 10 ∧ (n != 0 && b.toList.getD (n - 1) 0 == 13) = false) := by
      unfold outC
      have a1 : (((b.toList.getD n 0).toNat : Nat) : Int) = 10 ↔ b.toList[n] = 10 := by rw [hg]; exact toNat_is _ 10 (by decide)
      have a2 : (((b.toList.getD (n - 1) 0).toNat : Nat) : Int) = 13 ↔ b.toList.getD (n - 1) 0 = 13 := toNat_is _ 13 (by decide)
      simp only [Bool.and_eq_true, beq_iff_eq, Bool.or_eq_true, bne_iff_ne, ne_eq, a1, a2, Bool.and_eq_false_iff, beq_eq_false_iff_ne, bne_eq_false_iff_eq]
    by_cases hx : outC b n = true
    · rw [if_pos hx, if_pos (hc.mp hx), Array.toList_append, Array.toList_append, cut1, hd]
      simp
    · rw [if_neg hx, if_neg (fun e => hx (hc.mpr e)), Array.toList_append, cut1, hd]
      simp
theorem outN_all (b : Array UInt8) : outN b b.size = outA b := by
  apply Array.toList_inj.mp
  have h := outN_run b b.size (Nat.le_refl _)
  rw [List.drop_of_length_le (by rw [Array.length_toList]; exact Nat.le_refl _)] at h
  simpa [outL, outA] using h
-- the law of the two ways
theorem head_out : ∀ r : List UInt8, (outL true r).head? = r.head?
  | [] => rfl
  | c :: r => by rw [outL, if_neg (by simp)]; rfl
theorem in_out : ∀ (xs : List UInt8) (p : Bool), inL (outL p xs) = inL xs
  | [], _ => rfl
  | x :: r, p => by
    have ih := in_out r (x == 13)
    by_cases hx : x = 10
    · subst hx
      have e0 : ((10 : UInt8) == 13) = false := by decide
      rw [e0] at ih
      rw [outL, e0]
      split
      · rw [inL_crlf, ih, inL_cons_no (by simp)]
      · rw [inL_cons_no (by simp), ih, inL_cons_no (by simp)]
    · rw [outL, if_neg (by simp [hx])]
      by_cases h13 : x = 13
      · subst h13
        have e1 : ((13 : UInt8) == 13) = true := by decide
        rw [e1] at ih ⊢
        rw [inL, inL, head_out, ih]
      · rw [inL_cons_no (by simp [h13]), inL_cons_no (by simp [h13]), ih]
theorem has_tail {x c : UInt8} {r : List UInt8} {y : List UInt8} (h : hasL y (c :: r) = false) : hasL y r = false := by
  simp only [hasL, Bool.or_eq_false_iff] at h; exact h.2
theorem has_head {x : UInt8} {r : List UInt8} (h : hasL [13, 10] (x :: r) = false) : ¬ (x = 13 ∧ r.head? = some 10) := by
  simp only [hasL, Bool.or_eq_false_iff] at h
  intro e
  rw [(pre_crlf x r).mpr e] at h
  exact absurd h.1 (by decide)
theorem out_in : ∀ (n : Nat) (xs : List UInt8) (q : Bool), xs.length ≤ n → hasL [13, 10] (inL xs) = false → (q = true → (inL xs).head? ≠ some 10) → outL q (inL xs) = outL q xs
  | _, [], _, _, _, _ => rfl
  | 0, _ :: _, _, h, _, _ => by simp at h
  | n + 1, x :: r, q, h, hn, hq => by
    by_cases hx : x = 13 ∧ r.head? = some 10
    · obtain ⟨rfl, h10⟩ := hx
      cases r with
      | nil => simp at h10
      | cons y r =>
        have hy : y = 10 := by simpa using h10
        subst hy
        rw [inL_crlf] at hn hq ⊢
        have hqf : q = false := by
          cases q with
          | false => rfl
          | true => exact absurd rfl (hq rfl)
        subst hqf
        have ih := out_in n r false (by simp at h; omega) (has_tail (x := 0) hn) (by simp)
        have e0 : ((10 : UInt8) == 13) = false := by decide
        have e1 : ((13 : UInt8) == 13) = true := by decide
        rw [outL, if_pos ⟨rfl, rfl⟩, e0, ih, outL, if_neg (by simp), e1, outL, if_neg (by simp), e0]
    · rw [inL_cons_no hx] at hn hq ⊢
      have ih := out_in n r (x == 13) (by simp at h; omega) (has_tail (x := 0) hn) (fun e => by
        have e13 : x = 13 := by simpa using e
        intro h10
        exact has_head hn ⟨e13, h10⟩)
      rw [outL, outL, ih]
theorem in_id : ∀ xs : List UInt8, hasL [13, 10] xs = false → inL xs = xs
  | [], _ => rfl
  | x :: r, h => by rw [inL_cons_no (has_head h), in_id r (has_tail (x := 0) h)]
theorem out_has : ∀ (xs : List UInt8) (p : Bool), hasL [13, 10] xs = true → hasL [13, 10] (outL p xs) = true
  | [], _, h => by simp [hasL] at h
  | x :: r, p, h => by
    simp only [hasL, Bool.or_eq_true] at h
    rw [pre_crlf] at h
    rcases h with ⟨rfl, h10⟩ | h
    · cases r with
      | nil => simp at h10
      | cons y r =>
        have hy : y = 10 := by simpa using h10
        subst hy
        have e1 : ((13 : UInt8) == 13) = true := by decide
        rw [outL, if_neg (by simp), e1, outL, if_neg (by simp)]
        simp [hasL]
    · have ih := out_has r (x == 13) h
      rw [outL]
      split <;> simp [hasL, ih]
theorem pre0 (x : UInt8) (l : List UInt8) : ([0] : List UInt8).isPrefixOf (x :: l) = (0 == x) := by simp [List.isPrefixOf]
theorem has0_out : ∀ (xs : List UInt8) (p : Bool), hasL [0] (outL p xs) = hasL [0] xs
  | [], _ => rfl
  | x :: r, p => by
    have ih := has0_out r (x == 13)
    rw [outL]
    split
    · simp only [hasL, pre0, ih]
      rename_i hx
      rw [hx.1]; simp
    · simp only [hasL, pre0, ih]
theorem inA_outA (b : Array UInt8) : inA (outA b) = inA b := by
  unfold inA outA
  rw [List.toList_toArray, in_out]
theorem outA_inA (b : Array UInt8) (h : hasA #[13, 10] (inA b) = false) : outA (inA b) = outA b := by
  unfold inA outA at *
  rw [List.toList_toArray]
  rw [out_in b.toList.length b.toList false (Nat.le_refl _) (by simpa [hasA] using h) (by simp)]
theorem inA_id (b : Array UInt8) (h : hasA #[13, 10] b = false) : inA b = b := by
  unfold inA
  rw [in_id _ (by simpa [hasA] using h)]
theorem outA_has (b : Array UInt8) (h : hasA #[13, 10] b = true) : hasA #[13, 10] (outA b) = true := by
  unfold outA hasA at *
  rw [List.toList_toArray]
  exact out_has _ _ h
theorem has0_outA (b : Array UInt8) : hasA #[0] (outA b) = hasA #[0] b := by
  unfold outA hasA
  rw [List.toList_toArray]
  exact has0_out _ _
end
section
open Builtin
theorem splitL_len (c : List UInt8) : ∀ (xs cur : List UInt8) (k : Nat), (splitL c xs cur k).length ≤ xs.length + 1
  | [], _, _ => by simp [splitL]
  | _ :: r, cur, k + 1 => by
    have := splitL_len c r cur k
    simp only [splitL, List.length_cons]; omega
  | x :: r, cur, 0 => by
    unfold splitL
    split
    · have := splitL_len c r [] (c.length - 1)
      simp only [List.length_cons]; omega
    · have := splitL_len c r (x :: cur) 0
      simp only [List.length_cons]; omega
theorem splitL_size (c : List UInt8) : ∀ (xs cur : List UInt8) (k : Nat), ∀ p ∈ splitL c xs cur k, p.length ≤ cur.length + xs.length
  | [], cur, _, p, h => by simp [splitL] at h; subst h; simp
  | x :: r, cur, k + 1, p, h => by
    have := splitL_size c r cur k p h
    simp only [List.length_cons]; omega
  | x :: r, cur, 0, p, h => by
    unfold splitL at h
    split at h
    · rcases List.mem_cons.mp h with rfl | h
      · simp
      · have := splitL_size c r [] _ p h
        simp only [List.length_cons, List.length_nil] at *; omega
    · have := splitL_size c r (x :: cur) 0 p h
      simp only [List.length_cons] at *; omega
section
variable {prog : Program} {w : World} {A : Around} {E : Value → Shared → Prop} {s : Shared} {b c x : Array UInt8} {t u v : Tok} {h₀ : Heap} {L : Addr} {m : Str → Option Value} {news : List (Addr × Obj)} {Q : Value → Shared → Prop}
theorem tooLong_no {n : Nat} (h : n ≤ 16777216) : Bytes.tooLong n = false := KBy.tooLong_not h
theorem in_J (F : Fr h₀ L s.heap m) (N : News h₀ L s.heap news) (hh : A.handled = none) (hx : 0 < x.size)
    (h : ∀ h' tk, Fr h₀ L h' m → News h₀ L h' news → Q (.bool (hasA x b)) { s with heap := h', toks := tk }) : wpAny (model prog w) A (compareOp .In (.bytes x u) (.bytes b t)) Q E s :=
  in_bytes F N hh fun h' tk F' N' => by rw [find_has b x hx]; exact h h' tk F' N'
theorem notin_J (F : Fr h₀ L s.heap m) (N : News h₀ L s.heap news) (hh : A.handled = none) (hx : 0 < x.size)
    (h : ∀ h' tk, Fr h₀ L h' m → News h₀ L h' news → Q (.bool (!hasA x b)) { s with heap := h', toks := tk }) : wpAny (model prog w) A (compareOp .NotIn (.bytes x u) (.bytes b t)) Q E s := by
  show wpAny _ _ (do return .bool (!(← contains (.bytes b t) (.bytes x u)))) Q E s
  refine wpAny_bind (wpAny_contains_slot (typeIs_bytes s b t) FB.slot_bytes_contains (call_meets FB.slot_bytes_contains (typeIs_bytes s b t) FB.entry_bytes_contains (FB.args_bytes_contains_2 _ _) meets_contains ⟨hh, ?_⟩))
  intro h' tk hk
  rw [find_has b x hx]
  exact wpAny_truthy_bool (wpAny_pure (h h' tk (F.keptAll hk) (N.grown hk)))
theorem replace_J (hb : b.size ≤ 4096) (h : ∀ t' k, Q (.bytes (inA b) t') { s with toks := k }) : wpAny (model prog w) A (call (.builtin "bytes.replace") [.bytes b t, .bytes #[13, 10] u, .bytes #[10] v]) Q E s := by
  have h1 := inA_size b
  refine call_replace (by rfl) (by rw [repl_in, sizeLine_eq]; omega) (tooLong_no ?_) fun t' k => by rw [repl_in]; exact h t' k
  have h2 := occL_len [13, 10] b.toList 0 0
  rw [occ_eq b #[13, 10] (by decide)]
  have h3 : b.toList.length = b.size := Array.length_toList
  have h4 : (#[10] : Array UInt8).size = 1 := rfl
  have h5 : (occL (#[13, 10] : Array UInt8).toList b.toList 0 0).length ≤ b.toList.length := occL_len _ _ _ _
  rw [h4, Nat.mul_one]
  omega
theorem split_J (hb : b.size ≤ 4096) (F : Fr h₀ L s.heap m) (N : News h₀ L s.heap news)
    (h : ∀ l vs ps h' k, BytesAre vs ps → ps.map (·.toList) = splitL [10] b.toList [] 0 → ps.length ≤ b.size + 1 → (∀ p ∈ ps, p.size ≤ b.size) → Fr h₀ L h' m → News h₀ L h' ((l, PySem.W.listOf vs.toArray 0) :: news) → (∀ p ∈ news, p.1 < l) → Q (.ref l) { s with heap := h', toks := k }) :
    wpAny (model prog w) A (call (.builtin "bytes.split") [.bytes b t, .bytes #[10] u]) Q E s := by
  have h3 : b.toList.length = b.size := Array.length_toList
  have e := between_eq b #[10] (by decide)
  have hlen : (Bytes.between b (#[10] : Array UInt8).size (Bytes.occurrences b #[10] 0 b.size)).length ≤ b.size + 1 := by
    rw [← List.length_map (f := fun (p : Array UInt8) => p.toList), e, ← h3]; exact splitL_len _ _ _ _
  have hsz : ∀ p ∈ Bytes.between b (#[10] : Array UInt8).size (Bytes.occurrences b #[10] 0 b.size), p.size ≤ b.size := by
    intro p hp
    have hm : p.toList ∈ splitL [10] b.toList [] 0 := by rw [← e]; exact List.mem_map_of_mem hp
    have := splitL_size _ _ _ _ _ hm
    rw [Array.length_toList] at this
    simpa using this
  refine call_split F N (by rfl) (by rw [sizeLine_eq]; omega) (fun p hp => by have := hsz p hp; rw [sizeLine_eq]; omega) ?_ fun l vs h' k hv F' N' hl => h l vs _ h' k hv e hlen hsz F' N' hl
  rw [occ_eq b #[10] (by decide)]
  have h5 : (occL (#[10] : Array UInt8).toList b.toList 0 0).length ≤ b.toList.length := occL_len _ _ _ _
  omega
theorem ne_bytes_same (h : Q (.bool false) s) : wpAny (model prog w) A (compareOp .NotEq (.bytes b t) (.bytes b u)) Q E s :=
  ne_bytes (by simpa using h)
end
end
section
open Builtin PySem.SeqAt
theorem args_decode3 (a b c : Value) : argsOk "bytes.decode" ⟨[a, b, c], []⟩ := by
  unfold argsOk; rw [signature?_of (id := "bytes.decode") (n := ['e', 'd', 'o', 'c', 'e', 'd']) (o := ['s', 'e', 't', 'y', 'b']) (by kernel_rfl) FB.owner_bytes]; kernel_rfl
theorem decode_empty_eq {t u v : Tok} : «bytes.decode» ⟨[.bytes #[] t, .str (PySem.Str.ofString "utf-8") u, .str (PySem.Str.ofString "replace") v], []⟩ = (rule "bytes.decode.empty" >>= fun _ => retStr PySem.Str.empty) := by kernel_rfl
def eqB (x : Array UInt8) (v : Value) : Bool := match v with
  | .bytes b _ => decide (b.toList = x.toList)
  | _ => false
section
variable {prog : Program} {w : World} {A : Around} {E : Value → Shared → Prop} {s : Shared} {b c x : Array UInt8} {t u v : Tok} {h₀ : Heap} {L : Addr} {m : PySem.Str → Option Value} {news : List (Addr × Obj)} {Q : Value → Shared → Prop}
theorem call_decode_empty (h : ∀ t' k, Q (.str PySem.Str.empty t') { s with toks := k }) :
    wpAny (model prog w) A (call (.builtin "bytes.decode") [.bytes #[] t, .str (PySem.Str.ofString "utf-8") u, .str (PySem.Str.ofString "replace") v]) Q E s := by
  refine call_meets (S := fun _ R s => ∀ t' k, R (.ok (.ret (.str PySem.Str.empty t'))) { s with toks := k }) FB.slot_bytes_decode (typeIs_bytes _ _ _) FB.entry_bytes_decode (args_decode3 _ _ _) ?_ h
  refine .of_wp fun prog w A R s h => ?_
  rw [decode_empty_eq]
  exact wpAny_bind (wpAny_rule (wpAny_bind (wpAny_mkStr (wpAny_pure ⟨_, rfl, h _ _⟩) (by rw [sizeLine_eq]; decide))))
theorem eqAt_bytes (y : Array UInt8) (t u : Tok) : EqAt A s (.bytes y t) (.bytes x u) (decide (y.toList = x.toList)) := fun prog w E Q h => eqBool_bytes h
theorem in_tup_bytes {l : Addr} {items : List Value} {bs : List (Array UInt8)} (hl : s.heap.IsTuple l items.toArray) (hi : BytesAre items bs) (h : Q (.bool (bs.any fun y => decide (y.toList = x.toList))) s) :
    wpAny (model prog w) A (compareOp .In (.bytes x u) (.ref l)) Q E s := by
  refine in_tupleAt (eqB x) hl (fun y hy => ?_) ?_
  · have hy' : y ∈ items := by simpa using hy
    have : ∃ c t, y = .bytes c t := by
      clear hy h hl
      induction hi with
      | nil => cases hy'
      | cons _ ih =>
        rcases List.mem_cons.mp hy' with rfl | hy'
        · exact ⟨_, _, rfl⟩
        · exact ih hy'
    obtain ⟨c, t, rfl⟩ := this
    exact eqAt_bytes c t u
  · have e : items.toArray.any (eqB x) = bs.any fun y => decide (y.toList = x.toList) := by
      rw [List.any_toArray]
      clear h hl
      induction hi with
      | nil => rfl
      | cons _ ih => simp only [List.any_cons, ih, eqB]
    rw [e]; exact h
end
end
section
theorem words1 : True := by
  k_with_none
  k_with "callWith ref" => (k_here; k_dflt (refine' callWith_K (by k_asm) (by k_is) ?_; k_whole))
  k_with "compareOp In bytes bytes" => (k_here; k_dflt (refine' in_J (by k_asm) (by k_asm) (by rfl) (by decide) ?_; k_whole); intro h' tk' F' N'; (try k_sweep))
  k_with "compareOp NotIn bytes bytes" => (k_here; k_dflt (refine' notin_J (by k_asm) (by k_asm) (by rfl) (by decide) ?_; k_whole); intro h' tk' F' N'; (try k_sweep))
  k_with "compareOp Eq none bytes" => (k_here; refine eq_none_bytes ?_)
  k_with "compareOp Eq bytes str" => (k_here; refine eq_bytes_str ?_)
  k_with "subscriptTail" => (k_here; (with_reducible show wpAny _ _ (subscriptTail _ (Expr.Slice _ _ none _) (Value.bytes _ _) (Value.ref _)) _ _ _); (with_reducible rename Fr _ _ _ _ => F'); (with_reducible rename News _ _ _ _ => N'); (refine slice_J (s := ⟨_, _, _, _, _⟩) F' N' (by constructor) (by constructor) (by first | omega | ((try simp only [List.size_toArray, List.length_cons, List.length_nil]); omega)) ?_); intro h' t' k' F' N' hz'; (try k_sweep))
  k_with "subscriptTail" => (k_here; (with_reducible show wpAny _ _ (subscriptTail _ _ (Value.bytes _ _) (Value.int _ _)) _ _ _); (refine item_J (by omega) (by omega) (by omega) ?_); intro t' k')
  k_with "getMethod bytes" => (k_here; first | refine method_replace ?_ | refine method_split ?_ | refine method_join ?_ | refine method_endswith ?_)
  k_with "call builtin:bytes.endswith" => (k_here; refine call_endswith ?_)
  k_with "call builtin:bytes.replace" => (k_here; refine replace_J (by omega) ?_; intro t' k')
  k_with "call builtin:bytes.split" => (k_here; k_dflt (refine' split_J (by omega) (by k_asm) (by k_asm) ?_; k_whole); intro l' vs' ps' h' k' hv' hps' hln' hsz' F' N' l1; (try k_sweep))
  k_with "binaryOp Add bytes bytes" => (k_here; (with_reducible show wpAny _ _ (binaryOp Operator.Add (Value.bytes _ _) (Value.bytes _ _)) _ _ _); (refine KBy.add_bytes (by (try simp only [List.size_toArray, List.length_cons, List.length_nil]); omega) ?_); intro t' k')
  k_with "InvEndN" => k_dflt kst_close
  trivial
set_option maxRecDepth 100000 in
set_option maxHeartbeats 8000000 in
theorem c_c2l (w : World) {p : Program} {loose : List Str} {mean : ExcName → Option Value} {mg mb : Str → Option Value}
  (dp un : Nat) (gd : Option (List Code)) (cn : Str) (cs : Scope) (a : Addr) (ccd : Value) (cl : List (Str × Addr)) (outer : List Env) (A₀ : Around) (base h₀ : Heap) (L : Addr) (m : Str → Option Value) (news : List (Addr × Obj)) (s : Shared) (Q E : Value → Shared → Prop)
  (B : Below A₀ base outer h₀) (F : Fr h₀ L s.heap m) (X : (hd.heap_1 w.params).In h₀) (N : News h₀ L s.heap news) (T : Top p loose mean mg mb h₀) (hk : cs.kind = .function) (hdp : dp + 1 < recursionLimit) (hun : un + 8 < cLine)
  (b : Array UInt8) (tb : Tok) (hb : b.size ≤ 512) (hret : ∀ (t : Tok) (h' : Heap) (tk' : Nat), Fr h₀ L h' m → News h₀ L h' news → Q (.bytes (inA b) t) { s with heap := h', toks := tk' }) :
  wpAny (model PySem.Challenge.rw_jh0007_01.row.prog w) (ktrTop dp un gd cn cs L a ccd cl outer) (call (.ref 125) [.bytes b tb]) Q E s := by
  revert X; k_fill; intro X
  refine wpAny_call ?_
  k_dflt cell_enter
  k_steps
  all_goals exact hret _ _ _ (by assumption) (by assumption)
theorem cut_all (b : Array UInt8) (h : b.size ≤ 512) : cutA b none (some 8000) = b := by
  apply Array.toList_inj.mp
  unfold cutA
  have hl : b.toList.length = b.size := Array.length_toList
  simp only [Option.elim, List.drop_zero, Nat.sub_zero]
  rw [show (8000 : Int) = ((8000 : Nat) : Int) from rfl, clipAt_nat, List.take_of_length_le (by omega)]
set_option maxRecDepth 100000 in
set_option maxHeartbeats 8000000 in
theorem c_isbin (w : World) {p : Program} {loose : List Str} {mean : ExcName → Option Value} {mg mb : Str → Option Value}
  (dp un : Nat) (gd : Option (List Code)) (cn : Str) (cs : Scope) (a : Addr) (ccd : Value) (cl : List (Str × Addr)) (outer : List Env) (A₀ : Around) (base h₀ : Heap) (L : Addr) (m : Str → Option Value) (news : List (Addr × Obj)) (s : Shared) (Q E : Value → Shared → Prop)
  (B : Below A₀ base outer h₀) (F : Fr h₀ L s.heap m) (X : (hd.heap_1 w.params).In h₀) (N : News h₀ L s.heap news) (T : Top p loose mean mg mb h₀) (hk : cs.kind = .function) (hdp : dp + 1 < recursionLimit) (hun : un + 8 < cLine)
  (b : Array UInt8) (tb : Tok) (hb : b.size ≤ 512) (hret : ∀ (t : Tok) (h' : Heap) (tk' : Nat), Fr h₀ L h' m → News h₀ L h' news → Q (.bool (hasA #[0] b)) { s with heap := h', toks := tk' }) :
  wpAny (model PySem.Challenge.rw_jh0007_01.row.prog w) (ktrTop dp un gd cn cs L a ccd cl outer) (call (.ref 28) [.bytes b tb]) Q E s := by
  revert X; k_fill; intro X
  refine wpAny_call ?_
  k_dflt cell_enter
  k_steps
  all_goals (rw [cut_all b hb]; exact hret 0 _ _ (by assumption) (by assumption))
theorem in_end {b x : Array UInt8} (h : x = inN b (rangeKs 0 (((b.size : Nat) : Int) - 0).toNat).length) : x = inA b := by
  rw [h, rangeKs_length, show (((b.size : Nat) : Int) - 0).toNat = b.size by omega, inN_all]
theorem out_end {b x : Array UInt8} (h : x = outN b (rangeKs 0 (((b.size : Nat) : Int) - 0).toNat).length) : x = outA b := by
  rw [h, rangeKs_length, show (((b.size : Nat) : Int) - 0).toNat = b.size by omega, outN_all]
set_option maxRecDepth 100000 in
set_option maxHeartbeats 8000000 in
theorem c_in (w : World) {p : Program} {loose : List Str} {mean : ExcName → Option Value} {mg mb : Str → Option Value}
  (dp un : Nat) (gd : Option (List Code)) (cn : Str) (cs : Scope) (a : Addr) (ccd : Value) (cl : List (Str × Addr)) (outer : List Env) (A₀ : Around) (base h₀ : Heap) (L : Addr) (m : Str → Option Value) (news : List (Addr × Obj)) (s : Shared) (Q E : Value → Shared → Prop)
  (B : Below A₀ base outer h₀) (F : Fr h₀ L s.heap m) (X : (hd.heap_1 w.params).In h₀) (N : News h₀ L s.heap news) (T : Top p loose mean mg mb h₀) (hk : cs.kind = .function) (hdp : dp + 1 < recursionLimit) (hun : un + 8 < cLine)
  (b : Array UInt8) (tb : Tok) (hb : b.size ≤ 64) (hret : ∀ (t : Tok) (h' : Heap) (tk' : Nat), Fr h₀ L h' m → News h₀ L h' news → Q (.bytes (inA b) t) { s with heap := h', toks := tk' }) :
  wpAny (model PySem.Challenge.rw_jh0007_01.row.prog w) (ktrTop dp un gd cn cs L a ccd cl outer) (call (.ref 187) [.bytes b tb]) Q E s := by
  revert X; k_fill; intro X
  k_with "pyIter ref" => k_state (fun pre out => out = inN b pre.length ∧ out.size ≤ pre.length * 64) "out"
  k_with "state" => (first | exact inN_start b | exact inN_skip (by assumption) (by assumption) (by assumption) (by assumption) (by assumption) | exact inN_take (by assumption) (by assumption) (by assumption) (by assumption) (by assumption) (by assumption) | exact inN_take2 (by assumption) (by assumption) (by assumption) (by assumption) (by assumption) (by assumption))
  refine wpAny_call ?_
  k_dflt cell_enter
  k_steps
  all_goals ((rename (_ = inN b _) => hI); rw [in_end hI]; exact hret _ _ _ (by assumption) (by assumption))
set_option maxRecDepth 100000 in
set_option maxHeartbeats 8000000 in
theorem c_out (w : World) {p : Program} {loose : List Str} {mean : ExcName → Option Value} {mg mb : Str → Option Value}
  (dp un : Nat) (gd : Option (List Code)) (cn : Str) (cs : Scope) (a : Addr) (ccd : Value) (cl : List (Str × Addr)) (outer : List Env) (A₀ : Around) (base h₀ : Heap) (L : Addr) (m : Str → Option Value) (news : List (Addr × Obj)) (s : Shared) (Q E : Value → Shared → Prop)
  (B : Below A₀ base outer h₀) (F : Fr h₀ L s.heap m) (X : (hd.heap_1 w.params).In h₀) (N : News h₀ L s.heap news) (T : Top p loose mean mg mb h₀) (hk : cs.kind = .function) (hdp : dp + 1 < recursionLimit) (hun : un + 8 < cLine)
  (b : Array UInt8) (tb : Tok) (hb : b.size ≤ 64) (hret : ∀ (t : Tok) (h' : Heap) (tk' : Nat), Fr h₀ L h' m → News h₀ L h' news → Q (.bytes (outA b) t) { s with heap := h', toks := tk' }) :
  wpAny (model PySem.Challenge.rw_jh0007_01.row.prog w) (ktrTop dp un gd cn cs L a ccd cl outer) (call (.ref 194) [.bytes b tb]) Q E s := by
  revert X; k_fill; intro X
  k_with "pyIter ref" => k_state (fun pre out => out = outN b pre.length ∧ out.size ≤ pre.length * 65) "out"
  k_with "state" => (first | exact outN_start b | exact outN_put (by assumption) (by assumption) (by assumption) (by assumption) (by assumption) (by first | exact outC_a (by assumption) (by assumption) | exact outC_b (by assumption) (by omega) (by assumption) (by assumption)) | exact outN_no (by assumption) (by assumption) (by assumption) (by assumption) (by assumption) (by first | exact outC_c (by assumption) | exact outC_d (by omega) (by assumption) (by assumption)))
  refine wpAny_call ?_
  k_dflt cell_enter
  k_steps
  all_goals ((rename (_ = outN b _) => hI); rw [out_end hI]; exact hret _ _ _ (by assumption) (by assumption))
end
section
def updM (u : Str → Option Value) (l lc : Addr) : Str → Option Value := fun y => if y = Str.ofString "parts" then some (.ref l) else if y = Str.ofString "cleaned_parts" then some (.ref lc) else u y
theorem updM_self {m : Str → Option Value} {l lc : Addr} (h1 : m (Str.ofString "parts") = some (.ref l)) (h2 : m (Str.ofString "cleaned_parts") = some (.ref lc)) : m = updM m l lc := by
  funext y
  unfold updM
  by_cases e1 : y = Str.ofString "parts"
  · rw [if_pos e1, e1, h1]
  · rw [if_neg e1]
    by_cases e2 : y = Str.ofString "cleaned_parts"
    · rw [if_pos e2, e2, h2]
    · rw [if_neg e2]
theorem items_ind {prog : Program} {w : World} {A : Around} {E : Value → Shared → Prop} {s : Shared} {env : Env} {h₀ : Heap} {target : Expr} {body : List Stmt} {Q : Flow → Shared → Prop} {ws : List (Addr × String)} {keep : List (Addr × Obj)}
    (P : Nat → List Value → (Str → Option Value) → List (Addr × Obj) → Prop)
    (zero : ∀ i m news, P i [] m news → ItemsRest prog w A E h₀ env target body Q s ws keep [] m news)
    (step : ∀ (i : Nat) v r m news, P i (v :: r) m news → (∀ m' news', P (i + 1) r m' news' → ItemsRest prog w A E h₀ env target body Q s ws keep (enumItems (i + 1) r) m' news') →
      ItemsRest prog w A E h₀ env target body Q s ws keep (.pair (fun t => .int (i : Int) t) v :: enumItems (i + 1) r) m news) :
    ∀ vs i m news, P i vs m news → ItemsRest prog w A E h₀ env target body Q s ws keep (enumItems i vs) m news
  | [], i, m, news, h => zero i m news h
  | v :: r, i, m, news, h => step i v r m news h fun m' news' h' => items_ind P zero step r (i + 1) m' news' h'
def l2cP (l lc : Addr) (vs : List Value) (ps : List (Array UInt8)) (news : List (Addr × Obj)) (i : Nat) (rem : List Value) (m : Str → Option Value) (nw : List (Addr × Obj)) : Prop :=
  ∃ (u : Str → Option Value) (ca : Array Value) (c : Nat) (ds rs : List (Array UInt8)), i + rem.length = ps.length ∧ BytesAre rem rs ∧ BytesAre ca.toList ds ∧ ca.size = i ∧ m = updM u l lc ∧ nw = (lc, PySem.W.listOf ca c) :: (l, PySem.W.listOf vs.toArray 0) :: news ∧
    (∀ p ∈ rs, p.size ≤ 64) ∧ (∀ p ∈ ds, p.size ≤ 64) ∧ ds.map (·.toList) ++ cleanL (rs.map (·.toList)) = cleanL (ps.map (·.toList))
theorem l2c_init {l lc : Addr} {vs : List Value} {ps : List (Array UInt8)} {news : List (Addr × Obj)} {m : Str → Option Value} (hv : BytesAre vs ps) {k : Nat} (hs : ∀ p ∈ ps, p.size ≤ k) (hk : k ≤ 64) (h1 : m (Str.ofString "parts") = some (.ref l)) (h2 : m (Str.ofString "cleaned_parts") = some (.ref lc)) :
    l2cP l lc vs ps news 0 vs m ((lc, PySem.W.listOf [].toArray 0) :: (l, PySem.W.listOf vs.toArray 0) :: news) :=
  ⟨m, #[], 0, [], ps, by rw [hv.length]; omega, hv, .nil, rfl, updM_self h1 h2, rfl, fun p hp => Nat.le_trans (hs p hp) hk, (fun p hp => nomatch hp), by simp⟩
theorem end13 (p : Array UInt8) : (decide ((#[13] : Array UInt8).size ≤ p.size) && (p.extract (p.size - (#[13] : Array UInt8).size) p.size == #[13])) = true ↔ p.toList.getLast? = some 13 := by
  have hl : p.toList.length = p.size := Array.length_toList
  have h1 : (#[13] : Array UInt8).size = 1 := rfl
  rw [h1, Bool.and_eq_true, decide_eq_true_eq, beq_toList, beq_iff_eq, toList_extract]
  by_cases h : 1 ≤ p.size
  · rw [show p.size - (p.size - 1) = 1 by omega, List.getLast?_eq_getElem?, hl]
    have hd : p.toList.drop (p.size - 1) = [p.toList[p.size - 1]'(by omega)] := by
      rw [List.drop_eq_getElem_cons (by omega), List.drop_of_length_le (by omega)]
    rw [hd, List.getElem?_eq_getElem (by omega)]
    simp [h]
  · have e : p.toList = [] := List.eq_nil_of_length_eq_zero (by omega)
    rw [e]; simp [h]
theorem cut_last (p : Array UInt8) : (cutA p none (some (-1))).toList = p.toList.dropLast := by
  have hl : p.toList.length = p.size := Array.length_toList
  unfold cutA
  simp only [Option.elim, List.drop_zero, Nat.sub_zero]
  rw [List.dropLast_eq_take, hl]
  congr 1
  unfold clipAt
  simp only [show (-1 : Int) < 0 from by decide, if_true]
  omega
theorem l2c_end {h₀ h' : Heap} {L I l lc : Addr} {o1 o2 : Obj} {s₁ : Shared} {tk : Nat} {m' : Str → Option Value} {vs r : List Value} {ps ds rs : List (Array UInt8)} {news : List (Addr × Obj)} {ca : Array Value} {c i : Nat} {p q : Array UInt8} {t u : Tok} {R : (Str → Option Value) → List (Addr × Obj) → Prop}
    (F : Fr h₀ L h' m') (N : News h₀ L h' ((I + 1, o1) :: (I, o2) :: (lc, PySem.W.listOf (ca.push (.bytes q t)) (c + 1)) :: (l, PySem.W.listOf vs.toArray 0) :: news)) (hI : @LT.lt Nat _ lc I ∧ @LT.lt Nat _ l I ∧ AllLt I news)
    (IH : ∀ m' news', l2cP l lc vs ps news (i + 1) r m' news' → R m' news') (hi : i + (Value.bytes p u :: r).length = ps.length) (hr : BytesAre r rs) (hc : BytesAre ca.toList ds) (hcl : ca.size = i) (hz1 : ∀ x ∈ p :: rs, x.size ≤ 64) (hz2 : ∀ x ∈ ds, x.size ≤ 64)
    (hrel : ds.map (·.toList) ++ cleanL ((p :: rs).map (·.toList)) = cleanL (ps.map (·.toList))) (hq : cleanL ((p :: rs).map (·.toList)) = q.toList :: cleanL (rs.map (·.toList))) (hqz : q.size ≤ 64)
    (h1 : m' (Str.ofString "parts") = some (.ref l)) (h2 : m' (Str.ofString "cleaned_parts") = some (.ref lc)) :
    UnrEndW h₀ L s₁ [(I + 1, o1), (I, o2)] (fun m' n' => SubL [(l, PySem.W.listOf vs.toArray 0)] n' ∧ R m' n') { s₁ with heap := h', toks := tk } := by
  refine ⟨h', tk, m', (lc, PySem.W.listOf (ca.push (.bytes q t)) (c + 1)) :: (l, PySem.W.listOf vs.toArray 0) :: news, rfl, F, N, ?_, ⟨.tail _ (.head _), trivial⟩, IH _ _ ?_⟩
  · have h3 : ∀ x ∈ news, @LT.lt Nat _ x.1 I := kst_ltOf hI.2.2
    obtain ⟨a1, a2, _⟩ := hI
    intro x hx y hy
    have hxI : @LT.lt Nat _ x.1 I := by
      rcases List.mem_cons.mp hx with rfl | hx
      · exact a1
      · rcases List.mem_cons.mp hx with rfl | hx
        · exact a2
        · exact h3 x hx
    rcases List.mem_cons.mp hy with rfl | hy
    · exact Nat.ne_of_lt (Nat.lt_succ_of_lt hxI)
    · rw [List.mem_singleton.mp hy]; exact Nat.ne_of_lt hxI
  · refine ⟨m', ca.push (.bytes q t), c + 1, ds ++ [q], rs, ?_, hr, ?_, ?_, updM_self h1 h2, rfl, fun x hx => hz1 x (List.mem_cons_of_mem _ hx), ?_, ?_⟩
    · rw [List.length_cons] at hi; omega
    · rw [Array.toList_push]; exact hc.append (.cons .nil)
    · rw [Array.size_push]; omega
    · intro x hx
      rcases List.mem_append.mp hx with hx | hx
      · exact hz2 x hx
      · rw [List.mem_singleton.mp hx]; exact hqz
    · rw [← hrel, hq]; simp
theorem keepC {p : Array UInt8} {t : Tok} {r : List Value} {rs : List (Array UInt8)} {i n : Nat} (hr : BytesAre r rs) (hi : i + (Value.bytes p t :: r).length = n) (h : ¬ (i : Int) < (n : Int) - 1) : cleanL ((p :: rs).map (·.toList)) = p.toList :: cleanL (rs.map (·.toList)) := by
  have h1 := hr.length
  rw [List.length_cons] at hi
  have e : rs = [] := List.eq_nil_of_length_eq_zero (by omega)
  subst e; rfl
theorem goOn {p : Array UInt8} {t : Tok} {r : List Value} {rs : List (Array UInt8)} {i n : Nat} (hr : BytesAre r rs) (hi : i + (Value.bytes p t :: r).length = n) (h : (i : Int) < (n : Int) - 1) : cleanL ((p :: rs).map (·.toList)) = stripL p.toList :: cleanL (rs.map (·.toList)) := by
  have h1 := hr.length
  rw [List.length_cons] at hi
  exact cleanL_cons _ (by intro e; have e2 := congrArg List.length e; rw [List.length_map, List.length_nil] at e2; omega)
theorem keepB {p : Array UInt8} {t : Tok} {r : List Value} {rs : List (Array UInt8)} {i n : Nat} (hr : BytesAre r rs) (hi : i + (Value.bytes p t :: r).length = n) (h : (i : Int) < (n : Int) - 1)
    (h13 : (decide ((#[13] : Array UInt8).size ≤ p.size) && (p.extract (p.size - (#[13] : Array UInt8).size) p.size == #[13])) = false) : cleanL ((p :: rs).map (·.toList)) = p.toList :: cleanL (rs.map (·.toList)) := by
  rw [goOn hr hi h, stripL, if_neg]
  rw [← end13, h13]; exact Bool.false_ne_true
theorem stripA {p : Array UInt8} {t : Tok} {r : List Value} {rs : List (Array UInt8)} {i n : Nat} (hr : BytesAre r rs) (hi : i + (Value.bytes p t :: r).length = n) (h : (i : Int) < (n : Int) - 1)
    (h13 : (decide ((#[13] : Array UInt8).size ≤ p.size) && (p.extract (p.size - (#[13] : Array UInt8).size) p.size == #[13])) = true) : cleanL ((p :: rs).map (·.toList)) = (cutA p none (some (-1))).toList :: cleanL (rs.map (·.toList)) := by
  rw [goOn hr hi h, stripL, if_pos ((end13 p).mp h13), cut_last]
theorem fold_size : ∀ (l : List (Array UInt8)) (k : Nat), (∀ p ∈ l, p.size ≤ 64) → l.foldl (fun x y => x + y.size) k ≤ k + 64 * l.length
  | [], _, _ => by simp
  | p :: r, k, h => by
    have h1 := h p (List.mem_cons_self ..)
    have h2 := fold_size r (k + p.size) fun q hq => h q (List.mem_cons_of_mem _ hq)
    rw [List.foldl_cons, List.length_cons]
    omega
theorem join_J {prog : Program} {w : World} {A : Around} {E : Value → Shared → Prop} {s : Shared} {h₀ : Heap} {L lc : Addr} {news : List (Addr × Obj)} {ca : Array Value} {ds ps : List (Array UInt8)} {c i : Nat} {b : Array UInt8} {t : Tok} {Q : Value → Shared → Prop}
    (N : News h₀ L s.heap news) (hm : (lc, PySem.W.listOf ca c) ∈ news) (hv : BytesAre ca.toList ds) (hz : ∀ p ∈ ds, p.size ≤ 64) (hi : i + ([] : List Value).length = ps.length) (hl : ca.size = i) (hln : ps.length ≤ b.size + 1)
    (hrel : ds.map (·.toList) ++ cleanL (([] : List (Array UInt8)).map (·.toList)) = cleanL (ps.map (·.toList))) (hps : ps.map (·.toList) = splitL [10] b.toList [] 0) (hb : b.size ≤ 64)
    (h : ∀ t' k, Q (.bytes (outA b) t') { s with toks := k }) : wpAny (model prog w) A (call (.builtin "bytes.join") [.bytes #[13, 10] t, .ref lc]) Q E s := by
  have hd : ds.length ≤ 65 := by rw [← hv.length, Array.length_toList]; simp at hi; omega
  have e : Builtin.Bytes.joined #[13, 10] ds = outA b := by
    apply Array.toList_inj.mp
    rw [joined_eq]
    have e2 : ds.map (·.toList) = cleanL (splitL [10] b.toList [] 0) := by
      rw [← hps, ← hrel]; simp [cleanL]
    rw [e2]
    exact (join_out b.toList []).trans (by simp [outA])
  have h1 := outA_size b
  refine call_join N hm hv (by rw [e, PySem.sizeLine_eq]; omega) (tooLong_no ?_) fun t' k => by rw [e]; exact h t' k
  have h2 := fold_size ds (2 * (ds.length - 1)) hz
  rw [← Array.foldl_toList, List.size_toArray]
  show List.foldl (fun x y => x + y.size) (2 * (ds.length - 1)) ds ≤ 16777216
  omega
theorem words2 : True := by
  k_with_none
  k_with "callWith ref" => (k_here; k_dflt (refine' callWith_K (by k_asm) (by k_is) ?_; k_whole))
  k_with "compareOp In bytes bytes" => (k_here; k_dflt (refine' in_J (by k_asm) (by k_asm) (by rfl) (by decide) ?_; k_whole); intro h' tk' F' N'; (try k_sweep))
  k_with "compareOp NotIn bytes bytes" => (k_here; k_dflt (refine' notin_J (by k_asm) (by k_asm) (by rfl) (by decide) ?_; k_whole); intro h' tk' F' N'; (try k_sweep))
  k_with "compareOp Eq none bytes" => (k_here; refine eq_none_bytes ?_)
  k_with "compareOp Eq bytes str" => (k_here; refine eq_bytes_str ?_)
  k_with "subscriptTail" => (k_here; (with_reducible show wpAny _ _ (subscriptTail _ (Expr.Slice _ _ none _) (Value.bytes _ _) (Value.ref _)) _ _ _); (with_reducible rename Fr _ _ _ _ => F'); (with_reducible rename News _ _ _ _ => N'); (refine slice_J (s := ⟨_, _, _, _, _⟩) F' N' (by constructor) (by constructor) (by first | omega | ((try simp only [List.size_toArray, List.length_cons, List.length_nil]); omega)) ?_); intro h' t' k' F' N' hz'; (try k_sweep))
  k_with "subscriptTail" => (k_here; (with_reducible show wpAny _ _ (subscriptTail _ _ (Value.bytes _ _) (Value.int _ _)) _ _ _); (refine item_J (by omega) (by omega) (by omega) ?_); intro t' k')
  k_with "getMethod bytes" => (k_here; first | refine method_replace ?_ | refine method_split ?_ | refine method_join ?_ | refine method_endswith ?_)
  k_with "call builtin:bytes.endswith" => (k_here; refine call_endswith ?_)
  k_with "call builtin:bytes.replace" => (k_here; refine replace_J (by omega) ?_; intro t' k')
  k_with "call builtin:bytes.split" => (k_here; k_dflt (refine' split_J (by omega) (by k_asm) (by k_asm) ?_; k_whole); intro l' vs' ps' h' k' hv' hps' hln' hsz' F' N' l1; (try k_sweep))
  k_with "binaryOp Add bytes bytes" => (k_here; (with_reducible show wpAny _ _ (binaryOp Operator.Add (Value.bytes _ _) (Value.bytes _ _)) _ _ _); (refine KBy.add_bytes (by (try simp only [List.size_toArray, List.length_cons, List.length_nil]); omega) ?_); intro t' k')
  k_with "InvEndN" => k_dflt kst_close
  k_with "exec For Tuple Call cons nil" => (k_here; (rename Fr _ _ _ _ => lF'); (with_unfolding_all refine' For_turns lF' ?_; k_whole))
  k_with "call type:enumerate" => (k_here; (with_reducible show wpAny _ _ (call (Value.type _) [Value.ref _]) (fun xv s₁ => wpAny _ _ (pyIter xv) (fun it s₂ => TurnsAt _ _ _ _ _ _ _ _ _ it s₂) _ s₁) _ _); (k_dflt (refine' ktu_enum (by rfl) (by k_asm) (by k_asm) (by k_mem) (by rfl) (by rfl) rfl ?_); intro I' hI'; (k_lt hI'); refine items_ind (l2cP ?l ?lc ?vs ?ps ?news) ?zero ?step _ _ _ _ (by (refine l2c_init (by assumption) (by assumption) (by assumption) ?_ ?_ <;> rfl)); (case' zero => (rintro i' m' nw' ⟨u', cvs', c', ds', rs', hi', hr', hc', hcl', hm', hnw', hz1', hz2', hrel'⟩; subst hnw'; unfold updM at hm'; subst hm'; cases hr')); (case' step => (rintro i' v' r' m' nw' ⟨u', cvs', c', ds', rs', hi', hr', hc', hcl', hm', hnw', hz1', hz2', hrel'⟩ IH'; subst hnw'; unfold updM at hm'; subst hm'; cases hr'; have hzb' := hz1' _ (List.mem_cons_self ..)))))
  k_with "call builtin:len" => (k_here; (with_reducible show wpAny _ _ (call (Value.builtin "len") [Value.ref _]) _ _ _); k_dflt (refine' kst_len (by k_asm) (by k_mem) (by exact BytesAre.length (by assumption)) (by omega) ?_))
  k_with "call builtin:bytes.join" => (k_here; k_dflt (refine' join_J (by k_asm) (by k_mem) (by assumption) (by assumption) (by assumption) (by assumption) (by assumption) (by assumption) (by assumption) (by assumption) ?_); intro t' k')
  k_with "call builtin:list.append" => (k_here; (with_reducible show wpAny _ _ (call (Value.builtin _) [Value.ref _, _]) _ _ _); (k_dflt (refine' append_K (by k_asm) (by k_asm) (by k_upd) ?_ (by (rw [sizeLine_eq]; simp only [List.size_toArray]; omega)); k_whole)); intro h' F' N'; (try k_sweep))
  k_with "UnrEndW" => (k_dflt (refine' l2c_end (by assumption) (by assumption) (by assumption) (by assumption) (by assumption) (by assumption) (by assumption) (by assumption) (by assumption) (by assumption) (by assumption) (by first | exact stripA (by assumption) (by assumption) (by assumption) (by assumption) | exact keepB (by assumption) (by assumption) (by assumption) (by assumption) | exact keepC (by assumption) (by assumption) (by assumption)) (by omega) (by rfl) (by rfl)))
  trivial
set_option maxRecDepth 100000 in
set_option maxHeartbeats 8000000 in
theorem c_l2c (w : World) {p : Program} {loose : List Str} {mean : ExcName → Option Value} {mg mb : Str → Option Value}
  (dp un : Nat) (gd : Option (List Code)) (cn : Str) (cs : Scope) (a : Addr) (ccd : Value) (cl : List (Str × Addr)) (outer : List Env) (A₀ : Around) (base h₀ : Heap) (L : Addr) (m : Str → Option Value) (news : List (Addr × Obj)) (s : Shared) (Q E : Value → Shared → Prop)
  (B : Below A₀ base outer h₀) (F : Fr h₀ L s.heap m) (X : (hd.heap_1 w.params).In h₀) (N : News h₀ L s.heap news) (T : Top p loose mean mg mb h₀) (hk : cs.kind = .function) (hdp : dp + 1 < recursionLimit) (hun : un + 8 < cLine)
  (b : Array UInt8) (tb : Tok) (hb : b.size ≤ 64) (hret : ∀ (t : Tok) (h' : Heap) (tk' : Nat), Fr h₀ L h' m → News h₀ L h' news → Q (.bytes (outA b) t) { s with heap := h', toks := tk' }) :
  wpAny (model PySem.Challenge.rw_jh0007_01.row.prog w) (ktrTop dp un gd cn cs L a ccd cl outer) (call (.ref 132) [.bytes b tb]) Q E s := by
  revert X; k_fill; intro X
  have hMk : KstMark := kstMark
  refine wpAny_call ?_
  k_dflt cell_enter
  k_steps
  all_goals ((rename News _ _ _ _ => kN); exact hret _ _ _ (by assumption) (fun p hp => kN p (List.mem_cons_of_mem _ (List.mem_cons_of_mem _ hp))))
end
section
open Builtin PySem.SeqAt
theorem auto_tup {w : World} {h₀ h : Heap} {L : Addr} {m : PySem.Str → Option Value} (F : Fr h₀ L h m) (X : (hd.heap_1 w.params).In h₀) :
    IsTup h 43 #[Value.str (PySem.Str.ofString "auto") 245, Value.str (PySem.Str.ofString "auto-input") 246, Value.str (PySem.Str.ofString "auto-crlf") 247] :=
  ⟨_, F.keep _ _ (X 43 _ rfl), rfl, _, rfl⟩
theorem in_auto {w : World} {prog : Program} {A : Around} {E : Value → Shared → Prop} {s : Shared} {h₀ : Heap} {L : Addr} {m : PySem.Str → Option Value} {Q : Value → Shared → Prop} {x : PySem.Str} {u : Tok} {b : Bool} (F : Fr h₀ L s.heap m) (X : (hd.heap_1 w.params).In h₀)
    (hb : ([PySem.Str.ofString "auto", PySem.Str.ofString "auto-input", PySem.Str.ofString "auto-crlf"].any (· == x)) = b) (h : Q (.bool b) s) : wpAny (model prog w) A (compareOp .In (.str x u) (.ref 43)) Q E s :=
  in_tuple_strs (auto_tup F X) (ys := [PySem.Str.ofString "auto", PySem.Str.ofString "auto-input", PySem.Str.ofString "auto-crlf"]) (by repeat constructor) (by rw [hb]; exact h)
end
section
theorem m_keep {m : Str → Option Value} {x : Str} {v : Value} (h : m x = some v) : m = fun y => if y = x then some v else m y := by
  funext y
  by_cases e : y = x
  · rw [if_pos e, e, h]
  · rw [if_neg e]
theorem fr_set {h₀ h : Heap} {L : Addr} {m : Str → Option Value} {x : Str} {v : Value} (F : Fr h₀ L h m) (e : m x = some v) : Fr h₀ L h (fun y => if y = x then some v else m y) := (m_keep e) ▸ F
def Stop (P : Prop) : Prop := P
theorem Stop.go {P : Prop} (h : Stop P) : P := h
section
variable {M : Model} {prog : Program} {w : World} {A : Around} {E : Value → Shared → Prop} {s : Shared} {h₀ : Heap} {L : Addr} {m : Str → Option Value} {news : List (Addr × Obj)} {st : Stmt} {rest : List Stmt} {env : Env} {Q : Flow → Shared → Prop}
def SetPost (h₀ : Heap) (L : Addr) (m : Str → Option Value) (x : Str) (V : Value → Prop) (news : List (Addr × Obj)) (s : Shared) (fl : Flow) (s' : Shared) : Prop :=
  fl = .next ∧ ∃ v h tk, V v ∧ s' = { s with heap := h, toks := tk } ∧ Fr h₀ L h (fun y => if y = x then some v else m y) ∧ News h₀ L h news
theorem cutSet (x : Str) (V : Value → Prop) (F : Fr h₀ L s.heap m) (N : News h₀ L s.heap news)
    (h1 : wpAny M A (exec st env) (SetPost h₀ L m x V news s) E s)
    (h2 : ∀ v h tk, V v → Fr h₀ L h (fun y => if y = x then some v else m y) → News h₀ L h news → wpAny M A (execs rest env) Q E { s with heap := h, toks := tk }) : wpAny M A (execs (st :: rest) env) Q E s :=
  wpAny_execs_cons (wpAny_mono h1 (fun fl s' h => by
    obtain ⟨rfl, v, h, tk, hV, rfl, F', N'⟩ := h
    exact h2 v h tk hV F' N') fun _ _ e => e)
theorem set_end {x : Str} {V : Value → Prop} {v : Value} {h : Heap} {tk : Nat} {nw : List (Addr × Obj)} (F : Fr h₀ L h (fun y => if y = x then some v else m y)) (N : News h₀ L h nw) (hV : V v) (hs : ∀ q ∈ news, q ∈ nw) : SetPost h₀ L m x V news s .next { s with heap := h, toks := tk } :=
  ⟨rfl, v, h, tk, hV, rfl, F, fun q hq => N q (hs q hq)⟩
theorem set_keep {x : Str} {V : Value → Prop} {v : Value} {h : Heap} {tk : Nat} {nw : List (Addr × Obj)} (F : Fr h₀ L h m) (N : News h₀ L h nw) (e : m x = some v) (hV : V v) (hs : ∀ q ∈ news, q ∈ nw) : SetPost h₀ L m x V news s .next { s with heap := h, toks := tk } :=
  ⟨rfl, v, h, tk, hV, rfl, fr_set F e, fun q hq => N q (hs q hq)⟩
def EvPost (h₀ : Heap) (L : Addr) (m : Str → Option Value) (V : Value → Prop) (news : List (Addr × Obj)) (s : Shared) (v : Value) (s' : Shared) : Prop :=
  ∃ h tk, V v ∧ s' = { s with heap := h, toks := tk } ∧ Fr h₀ L h m ∧ News h₀ L h news
theorem cutEv {α : Sem Value} {QV : Value → Shared → Prop} (V : Value → Prop) (F : Fr h₀ L s.heap m) (N : News h₀ L s.heap news)
    (h1 : wpAny M A α (EvPost h₀ L m V news s) E s)
    (h2 : ∀ v h tk, V v → Fr h₀ L h m → News h₀ L h news → QV v { s with heap := h, toks := tk }) : wpAny M A α QV E s :=
  wpAny_mono h1 (fun v s' h => by
    obtain ⟨h, tk, hV, rfl, F', N'⟩ := h
    exact h2 v h tk hV F' N') fun _ _ e => e
theorem ev_end {V : Value → Prop} {v : Value} {h : Heap} {tk : Nat} (F : Fr h₀ L h m) (N : News h₀ L h news) (hV : V v) : EvPost h₀ L m V news s v { s with heap := h, toks := tk } := ⟨h, tk, hV, rfl, F, N⟩
end
inductive Act where | bin | ti | tc | ai | ac
def Act.str : Act → Str
  | .bin => Str.ofString "binary"
  | .ti => Str.ofString "text-input"
  | .tc => Str.ofString "text-crlf"
  | .ai => Str.ofString "auto-input"
  | .ac => Str.ofString "auto-crlf"
def Act.crlf : Act → Bool
  | .tc => true
  | .ac => true
  | _ => false
def Act.auto : Act → Bool
  | .ai => true
  | .ac => true
  | _ => false
theorem dict_bn {prog : Program} {w : World} {A : Around} {E : Value → Shared → Prop} {s : Shared} {env : Env} {h₀ : Heap} {L : Addr} {m : Str → Option Value} {news : List (Addr × Obj)} {Q : Value → Shared → Prop} {keys : List (Option PySem.Expr)} {values : List PySem.Expr} {pos : Pos} (F : Fr h₀ L s.heap m) (N : News h₀ L s.heap news) (hbig : h₀.NoLimit)
    (hall : keys.all (·.isSome) = true) (hl : keys.length = values.length) (h0 : keys ≠ []) (hlen : keys.length ≤ 15)
    (h : ∀ (d : Addr) h' o, Fr h₀ L h' m → News h₀ L h' ((d, o) :: news) → (∀ p ∈ news, p.1 < d) → (d == sysModules) = false → o.IsDictOf (bnKind prog w) [] →
      wpAny (model prog w) A (evalPairs (pairTrees keys values env pos)) (fun vs s₁ => KdnMade prog w (bnKind prog w) d Q vs s₁) E { s with heap := h' }) :
    wpAny (model prog w) A (eval (.Dict keys values pos) env) Q E s := kdn_eval (knd := bnKind prog w) F N hbig hall hl h0 hlen h
end
section
def crB (o c : Array UInt8) : Bool := if (hasA #[13, 10] o && !hasA #[13, 10] c) = true then decide (outA c ≠ o) else if (hasA #[10] o && (hasA #[13, 10] c && !hasA #[13, 10] o)) = true then decide (inA c ≠ o) else false
inductive Safe : Array UInt8 → Prop
  | no : Safe #[102, 97, 108, 115, 101]
  | yes : Safe #[116, 114, 117, 101]
  | warn : Safe #[119, 97, 114, 110]
def refuse (sf o c : Array UInt8) : Bool := decide (sf = #[116, 114, 117, 101]) && crB o c
theorem ne_bytes_of {a b : Array UInt8} (h : (a.toList != b.toList) = true) : a ≠ b := by rintro rfl; simp at h
theorem eq_bytes_of {a b : Array UInt8} (h : (a.toList != b.toList) = false) : a = b := Array.toList_inj.mp (by simpa using h)
theorem refuse_no (o c : Array UInt8) : refuse #[102, 97, 108, 115, 101] o c = false := by
  rw [refuse, decide_eq_false (by decide)]; rfl
theorem refuse_warn (o c : Array UInt8) : refuse #[119, 97, 114, 110] o c = false := by
  rw [refuse, decide_eq_false (by decide)]; rfl
theorem refuse_yes (o c : Array UInt8) : refuse #[116, 114, 117, 101] o c = crB o c := by
  rw [refuse, decide_eq_true (by rfl)]; rfl
end
local macro_rules | `(tactic| cell_enter) => `(tactic| (refine' code_def ?k1 ?k2 ?k3 ?k4 ?k5 ?kA ?kF ?kK ?k6 ?k7 ?k8 ?k9 ?kB ?_ ?c2 ?c3 ?c4 ?c5; (case kA => exact rfl); (case kF => exact rfl); (case kK => first | exact rfl | assumption); (case k1 => k_asm); (case k2 => k_asm); (case k3 => k_asm); (case k4 => k_asm); (case k5 => k_asm); (case k6 => k_is); (case k7 => k_is); (case k8 => ktr_room); (case k9 => exact binds_K (by k_in) rfl (by k_is) rfl rfl rfl); (case c5 => decide); (case kB => exact locs rfl); (case c2 => exact rfl); (case c3 => exact rfl); (case c4 => exact rfl); k_whole; intro g' L' h' FG' F' N' B' X' T'; (try dsimp only); (try k_lift B'); (try k_fold)))
section
local macro_rules | `(tactic| k_room) => `(tactic| ktr_room)
local macro_rules | `(tactic| k_units) => `(tactic| ktr_units)
theorem flat_sn {base g₂ : Heap} {l : List Env} {e : Addr} {c : Value} {q : Addr × Obj} {news : List (Addr × Obj)} {h : Heap} (R : RaisedSN base g₂ l e c (q :: news) h) : RaisedSN base g₂ l e c news h := by
  obtain ⟨B, a0, x1, x2, x3, x4⟩ := R
  exact ⟨B, a0, x1, x2, fun p hp => x3 p (List.mem_cons_of_mem _ hp), x4⟩
theorem sf_is {sf x : Array UInt8} (h : (sf.toList == x.toList) = true) : sf = x := Array.toList_inj.mp (by simpa using h)
theorem refuse_f {sf : Array UInt8} (o c : Array UInt8) (h : (sf.toList == (#[116, 114, 117, 101] : Array UInt8).toList) = false) : refuse sf o c = false := by
  rw [refuse, decide_eq_false (by rintro rfl; simp at h)]; rfl
theorem refuse_fls {sf : Array UInt8} (o c : Array UInt8) (h : (sf.toList == (#[102, 97, 108, 115, 101] : Array UInt8).toList) = true) : refuse sf o c = false := by
  rw [sf_is h]; exact refuse_no o c
theorem refuse_out3 {sf : Array UInt8} (o c : Array UInt8) (h : ([(#[116, 114, 117, 101] : Array UInt8), #[119, 97, 114, 110]].any fun y => decide (y.toList = sf.toList)) = false) : refuse sf o c = false := by
  refine refuse_f o c ?_
  cases q : (sf.toList == (#[116, 114, 117, 101] : Array UInt8).toList)
  · rfl
  · rw [sf_is q] at h; simp at h
theorem refuse_cr {sf : Array UInt8} {o c : Array UInt8} (h : crB o c = false) : refuse sf o c = false := by rw [refuse, h, Bool.and_false]
theorem refuse_t {sf : Array UInt8} {o c : Array UInt8} (h : (sf.toList == (#[116, 114, 117, 101] : Array UInt8).toList) = true) (hc : crB o c = true) : refuse sf o c = true := by rw [sf_is h, refuse_yes, hc]
theorem words3 : True := by
  k_with_none
  k_with "callWith ref" => (k_here; k_dflt (refine' callWith_K (by k_asm) (by k_is) ?_; k_whole))
  k_with "compareOp In bytes bytes" => (k_here; k_dflt (refine' in_J (by k_asm) (by k_asm) (by rfl) (by decide) ?_; k_whole); intro h' tk' F' N'; (try k_sweep))
  k_with "compareOp NotIn bytes bytes" => (k_here; k_dflt (refine' notin_J (by k_asm) (by k_asm) (by rfl) (by decide) ?_; k_whole); intro h' tk' F' N'; (try k_sweep))
  k_with "compareOp Eq none bytes" => (k_here; refine eq_none_bytes ?_)
  k_with "compareOp Eq bytes str" => (k_here; refine eq_bytes_str ?_)
  k_with "subscriptTail" => (k_here; (with_reducible show wpAny _ _ (subscriptTail _ (Expr.Slice _ _ none _) (Value.bytes _ _) (Value.ref _)) _ _ _); (with_reducible rename Fr _ _ _ _ => F'); (with_reducible rename News _ _ _ _ => N'); (refine slice_J (s := ⟨_, _, _, _, _⟩) F' N' (by constructor) (by constructor) (by first | omega | ((try simp only [List.size_toArray, List.length_cons, List.length_nil]); omega)) ?_); intro h' t' k' F' N' hz'; (try k_sweep))
  k_with "subscriptTail" => (k_here; (with_reducible show wpAny _ _ (subscriptTail _ _ (Value.bytes _ _) (Value.int _ _)) _ _ _); (refine item_J (by omega) (by omega) (by omega) ?_); intro t' k')
  k_with "getMethod bytes" => (k_here; first | refine method_replace ?_ | refine method_split ?_ | refine method_join ?_ | refine method_endswith ?_)
  k_with "call builtin:bytes.endswith" => (k_here; refine call_endswith ?_)
  k_with "call builtin:bytes.replace" => (k_here; refine replace_J (by omega) ?_; intro t' k')
  k_with "call builtin:bytes.split" => (k_here; k_dflt (refine' split_J (by omega) (by k_asm) (by k_asm) ?_; k_whole); intro l' vs' ps' h' k' hv' hps' hln' hsz' F' N' l1; (try k_sweep))
  k_with "binaryOp Add bytes bytes" => (k_here; (with_reducible show wpAny _ _ (binaryOp Operator.Add (Value.bytes _ _) (Value.bytes _ _)) _ _ _); (refine KBy.add_bytes (by (try simp only [List.size_toArray, List.length_cons, List.length_nil]); omega) ?_); intro t' k')
  k_with "InvEndN" => k_dflt kst_close
  k_with "compareOp In bytes ref" => (k_here; k_dflt (refine' in_tup_bytes (by exact News.isTup (by k_asm) (by k_mem)) (by repeat constructor) ?_))
  k_with "getMethod bytes" => (k_here; refine KBd.method ?_)
  k_with "call builtin:bytes.decode" => (k_here; refine call_decode_empty ?_; intro t' k')
  k_with "call ref" => (k_here; (with_reducible show wpAny _ _ (call (Value.ref 125) [Value.bytes _ _]) _ _ _); k_dflt (refine' c_c2l _ _ _ _ _ _ _ _ _ _ _ _ _ _ _ _ _ _ _ (by k_asm) (by k_asm) (by k_asm) (by k_asm) (by k_asm) (by first | exact rfl | assumption) (by ktr_room) (by ktr_units) _ _ (by omega) ?hr); intro t' h' tk' F' N'; (try k_sweep))
  k_with "call ref" => (k_here; (with_reducible show wpAny _ _ (call (Value.ref 132) [Value.bytes _ _]) _ _ _); k_dflt (refine' c_l2c _ _ _ _ _ _ _ _ _ _ _ _ _ _ _ _ _ _ _ (by k_asm) (by k_asm) (by k_asm) (by k_asm) (by k_asm) (by first | exact rfl | assumption) (by ktr_room) (by ktr_units) _ _ (by omega) ?hr); intro t' h' tk' F' N'; (try k_sweep))
  k_with "leaving ref" => (k_here; k_dflt (refine' leave_newS (by k_asm) (by assumption) (by k_asm) (by k_asm) ?_; k_whole); intro h' RS' RN' U'; (try dsimp only at RS' RN' U' ⊢))
  trivial
set_option maxRecDepth 100000 in
set_option maxHeartbeats 8000000 in
theorem c_check (w : World) {p : Program} {loose : List Str} {mean : ExcName → Option Value} {mg mb : Str → Option Value}
  (dp un : Nat) (gd : Option (List Code)) (cn : Str) (cs : Scope) (a : Addr) (ccd : Value) (cl : List (Str × Addr)) (outer : List Env) (A₀ : Around) (base h₀ : Heap) (L : Addr) (m : Str → Option Value) (news : List (Addr × Obj)) (s : Shared) (Q E : Value → Shared → Prop)
  (B : Below A₀ base outer h₀) (F : Fr h₀ L s.heap m) (X : (hd.heap_1 w.params).In h₀) (N : News h₀ L s.heap news) (T : Top p loose mean mg mb h₀) (hk : cs.kind = .function) (hdp : dp + 3 < recursionLimit) (hun : un + 30 < cLine)
  (o c sf : Array UInt8) (to tc tsf tp : Tok) (ho : o.size ≤ 64) (hc : c.size ≤ 64) (hsf : Safe sf)
  (hret : ∀ (h' : Heap) (tk' : Nat), refuse sf o c = false → Fr h₀ L h' m → News h₀ L h' news → Q .none { s with heap := h', toks := tk' })
  (herr : ∀ (e : Addr) (h' g₂ : Heap) (tk' : Nat), refuse sf o c = true → Fr h₀ L g₂ m → RaisedSN base g₂ (envX cn cs L a ccd cl :: outer) e (.type "ValueError") news h' → g₂.UpToSlots h' → E (.ref e) { s with heap := h', toks := tk' }) :
  wpAny (model PySem.Challenge.rw_jh0007_01.row.prog w) (ktrTop dp un gd cn cs L a ccd cl outer) (call (.ref 140) [.bytes o to, .bytes c tc, .bytes sf tsf, .bytes #[] tp]) Q E s := by
  revert X; k_fill; intro X
  refine wpAny_call ?_
  k_dflt cell_enter
  k_steps
  all_goals first
    | (rename News h₀ L _ _ => kN
       refine hret _ _ ?_ (by k_asm) (fun p hp => kN p (by first | exact hp | exact List.mem_cons_of_mem _ hp | exact List.mem_cons_of_mem _ (List.mem_cons_of_mem _ hp)))
       first
       | exact refuse_fls _ _ (by assumption)
       | exact refuse_out3 _ _ (by assumption)
       | exact refuse_f _ _ (by assumption)
       | (refine refuse_cr ?_; first | (rename (_ != _) = false => hq; have hq := eq_bytes_of hq; simp [crB, *]; done) | (simp [crB, *]; done)))
    | (rename RaisedSN _ _ _ _ _ _ _ => RS
       refine herr _ _ _ _ (refuse_t (by assumption) ?_) (by assumption) (flat_sn RS) (by assumption)
       rename (_ != _) = true => hq
       have hq := ne_bytes_of hq
       simp [crB, *]; done)
end
section
def idxV : Option Bool → Value
  | none => .none
  | some b => .bool b
def fltE (w : World) (k1 k2 k3 k4 k5 k6 : Tok) (sm : Value) (sf : Array UInt8) (tsf : Tok) (lf : Bool) (iv : Value) : List DictEntry :=
  [{ hash := PyData.keyHash w.params (Str.ofString "clean_conversion"), key := Value.str (Str.ofString "clean_conversion") k1, val := Value.bool true },
   { hash := PyData.keyHash w.params (Str.ofString "smudge_conversion"), key := Value.str (Str.ofString "smudge_conversion") k2, val := sm },
   { hash := PyData.keyHash w.params (Str.ofString "binary_detection"), key := Value.str (Str.ofString "binary_detection") k3, val := Value.bool true },
   { hash := PyData.keyHash w.params (Str.ofString "safecrlf"), key := Value.str (Str.ofString "safecrlf") k4, val := Value.bytes sf tsf },
   { hash := PyData.keyHash w.params (Str.ofString "require_lf_only"), key := Value.str (Str.ofString "require_lf_only") k5, val := Value.bool lf },
   { hash := PyData.keyHash w.params (Str.ofString "index_has_crlf"), key := Value.str (Str.ofString "index_has_crlf") k6, val := iv }]
def cleanV (sf : Array UInt8) (iv : Option Bool) (b : Array UInt8) : Option (Array UInt8) :=
  if hasA #[0] b = true then some b else if iv = some true ∧ hasA #[13, 10] b = true then some b else if refuse sf b (inA b) = true then none else some (inA b)
def smudgeV (sm : Value) (lf : Bool) (b : Array UInt8) : Array UInt8 :=
  if sm = .none then b else if hasA #[0] b = true then b else if lf = true ∧ hasA #[13] b = true then b else outA b
theorem refuse_out (sf b : Array UInt8) : refuse sf b (outA b) = false := by
  unfold refuse crB
  by_cases h : hasA #[13, 10] b = true
  · simp [h, outA_has b h]
  · have h : hasA #[13, 10] b = false := by simpa using h
    simp [h, inA_outA, inA_id b h]
theorem refuse_isno (o c : Array UInt8) {sf : Array UInt8} (h : (sf.toList != (#[102, 97, 108, 115, 101] : Array UInt8).toList) = false) : refuse sf o c = false := by
  rw [eq_bytes_of h]; exact refuse_no o c
theorem handed_idx {iv : Option Bool} : handedIn (idxV iv) = true := by rcases iv with _ | _ | _ <;> rfl
theorem isNot_idx {M : Model} {A : Around} {E : Value → Shared → Prop} {s : Shared} {iv : Option Bool} {Q : Value → Shared → Prop} (h : Q (.bool iv.isSome) s) : wpAny M A (compareOp .IsNot (idxV iv) .none) Q E s := by
  cases iv
  · exact wpAny_isNot_self (by rfl) h
  · exact wpAny_isNot_other (by rfl) (by intro x; cases x) h
theorem truthy_idx {M : Model} {A : Around} {E : Value → Shared → Prop} {s : Shared} {iv : Option Bool} {Q : Bool → Shared → Prop} (h : Q (iv == some true) s) : wpAny M A (truthy (idxV iv)) Q E s := by
  rcases iv with _ | _ | _
  · exact truthy_none h
  · exact wpAny_truthy_bool h
  · exact wpAny_truthy_bool h
theorem clean_v {sf b : Array UInt8} {iv : Option Bool} {c : Array UInt8} (h0 : hasA #[0] b = true) (e : c = b) : cleanV sf iv b = some c := by subst e; unfold cleanV; rw [if_pos h0]
theorem clean_iv {sf b : Array UInt8} {iv : Option Bool} (h0 : hasA #[0] b = false) (h1 : hasA #[13, 10] b = true) (h2 : (iv == some true) = true) : cleanV sf iv b = some b := by
  have : iv = some true := by simpa using h2
  unfold cleanV; simp [h0, h1, this]
theorem clean_no {sf b : Array UInt8} {iv : Option Bool} (h0 : hasA #[0] b = false) (h1 : iv.isSome = false ∨ hasA #[13, 10] b = false ∨ (iv == some true) = false) : cleanV sf iv b = if refuse sf b (inA b) = true then none else some (inA b) := by
  have : ¬ (iv = some true ∧ hasA #[13, 10] b = true) := by
    rintro ⟨rfl, h⟩
    rcases h1 with h1 | h1 | h1
    · simp at h1
    · rw [h] at h1; simp at h1
    · simp at h1
  unfold cleanV; simp [h0, this]
local macro_rules | `(tactic| k_room) => `(tactic| ktr_room)
local macro_rules | `(tactic| k_units) => `(tactic| ktr_units)
theorem sub_sn {base g₂ : Heap} {l : List Env} {e : Addr} {c : Value} {nw news : List (Addr × Obj)} {h : Heap} (R : RaisedSN base g₂ l e c nw h) (hs : ∀ p ∈ news, p ∈ nw) : RaisedSN base g₂ l e c news h := by
  obtain ⟨B, a0, x1, x2, x3, x4⟩ := R
  exact ⟨B, a0, x1, x2, fun p hp => x3 p (hs p hp), x4⟩
theorem smu_end {h₀ h' : Heap} {L : Addr} {m : Str → Option Value} {news : List (Addr × Obj)} {s : Shared} {Q : Value → Shared → Prop} {x y : Array UInt8} {t : Tok} {tk' : Nat} (hret : ∀ (t : Tok) (h' : Heap) (tk' : Nat), Fr h₀ L h' m → News h₀ L h' news → Q (.bytes x t) { s with heap := h', toks := tk' }) (e : y = x) (F : Fr h₀ L h' m) (N : News h₀ L h' news) : Q (.bytes y t) { s with heap := h', toks := tk' } := by
  subst e
  exact hret t h' tk' F N
theorem in_tl2 {p q r : Addr × Obj} {news : List (Addr × Obj)} (h : p ∈ news) : p ∈ q :: r :: news := List.mem_cons_of_mem _ (List.mem_cons_of_mem _ h)
local macro_rules | `(tactic| k_handed) => `(tactic| exact handed_idx)
theorem words4 : True := by
  k_with_none
  k_with "callWith ref" => (k_here; k_dflt (refine' callWith_K (by k_asm) (by k_is) ?_; k_whole))
  k_with "compareOp In bytes bytes" => (k_here; k_dflt (refine' in_J (by k_asm) (by k_asm) (by rfl) (by decide) ?_; k_whole); intro h' tk' F' N'; (try k_sweep))
  k_with "compareOp NotIn bytes bytes" => (k_here; k_dflt (refine' notin_J (by k_asm) (by k_asm) (by rfl) (by decide) ?_; k_whole); intro h' tk' F' N'; (try k_sweep))
  k_with "compareOp Eq none bytes" => (k_here; refine eq_none_bytes ?_)
  k_with "compareOp Eq bytes str" => (k_here; refine eq_bytes_str ?_)
  k_with "subscriptTail" => (k_here; (with_reducible show wpAny _ _ (subscriptTail _ (Expr.Slice _ _ none _) (Value.bytes _ _) (Value.ref _)) _ _ _); (with_reducible rename Fr _ _ _ _ => F'); (with_reducible rename News _ _ _ _ => N'); (refine slice_J (s := ⟨_, _, _, _, _⟩) F' N' (by constructor) (by constructor) (by first | omega | ((try simp only [List.size_toArray, List.length_cons, List.length_nil]); omega)) ?_); intro h' t' k' F' N' hz'; (try k_sweep))
  k_with "subscriptTail" => (k_here; (with_reducible show wpAny _ _ (subscriptTail _ _ (Value.bytes _ _) (Value.int _ _)) _ _ _); (refine item_J (by omega) (by omega) (by omega) ?_); intro t' k')
  k_with "getMethod bytes" => (k_here; first | refine method_replace ?_ | refine method_split ?_ | refine method_join ?_ | refine method_endswith ?_)
  k_with "call builtin:bytes.endswith" => (k_here; refine call_endswith ?_)
  k_with "call builtin:bytes.replace" => (k_here; refine replace_J (by omega) ?_; intro t' k')
  k_with "call builtin:bytes.split" => (k_here; k_dflt (refine' split_J (by omega) (by k_asm) (by k_asm) ?_; k_whole); intro l' vs' ps' h' k' hv' hps' hln' hsz' F' N' l1; (try k_sweep))
  k_with "binaryOp Add bytes bytes" => (k_here; (with_reducible show wpAny _ _ (binaryOp Operator.Add (Value.bytes _ _) (Value.bytes _ _)) _ _ _); (refine KBy.add_bytes (by (try simp only [List.size_toArray, List.length_cons, List.length_nil]); omega) ?_); intro t' k')
  k_with "InvEndN" => k_dflt kst_close
  k_with "compareOp In bytes ref" => (k_here; k_dflt (refine' in_tup_bytes (by exact News.isTup (by k_asm) (by k_mem)) (by repeat constructor) ?_))
  k_with "getMethod bytes" => (k_here; refine KBd.method ?_)
  k_with "call builtin:bytes.decode" => (k_here; refine call_decode_empty ?_; intro t' k')
  k_with "compareOp In str ref" => (k_here; (with_reducible show wpAny _ _ (compareOp CmpOp.In (Value.str _ _) (Value.ref 43)) _ _ _); k_dflt (first | (refine' in_auto (b := true) (by k_asm) (by k_asm) (by decide +kernel) ?_) | (refine' in_auto (b := false) (by k_asm) (by k_asm) (by decide +kernel) ?_); k_whole))
  k_with "call ref" => (k_here; (with_reducible show wpAny _ _ (call (Value.ref 125) [Value.bytes _ _]) _ _ _); k_dflt (refine' c_c2l _ _ _ _ _ _ _ _ _ _ _ _ _ _ _ _ _ _ _ (by k_asm) (by k_asm) (by k_asm) (by k_asm) (by k_asm) (by first | exact rfl | assumption) (by ktr_room) (by ktr_units) _ _ (by omega) ?_); intro t' h' tk' F' N'; (try k_sweep))
  k_with "call ref" => (k_here; (with_reducible show wpAny _ _ (call (Value.ref 132) [Value.bytes _ _]) _ _ _); k_dflt (refine' c_l2c _ _ _ _ _ _ _ _ _ _ _ _ _ _ _ _ _ _ _ (by k_asm) (by k_asm) (by k_asm) (by k_asm) (by k_asm) (by first | exact rfl | assumption) (by ktr_room) (by ktr_units) _ _ (by omega) ?_); intro t' h' tk' F' N'; (try k_sweep))
  k_with "call ref" => (k_here; (with_reducible show wpAny _ _ (call (Value.ref 28) [Value.bytes _ _]) _ _ _); k_dflt (refine' c_isbin _ _ _ _ _ _ _ _ _ _ _ _ _ _ _ _ _ _ _ (by k_asm) (by k_asm) (by k_asm) (by k_asm) (by k_asm) (by first | exact rfl | assumption) (by ktr_room) (by ktr_units) _ _ (by omega) ?_); intro t' h' tk' F' N'; (try k_sweep))
  k_with "leaving ref" => (k_here; k_dflt (refine' leave_onSN (by k_asm) (by assumption) (by assumption) (by assumption) ?_; k_whole); intro h' RS' RN' U'; (try dsimp only at RS' RN' U' ⊢))
  k_with "call ref" => (k_here; (with_reducible show wpAny _ _ (call (Value.ref 140) [Value.bytes _ _, Value.bytes _ _, Value.bytes _ _, Value.bytes _ _]) _ _ _); k_dflt (refine' c_check _ _ _ _ _ _ _ _ _ _ _ _ _ _ _ _ _ _ _ (by k_asm) (by k_asm) (by k_asm) (by k_asm) (by k_asm) (by first | exact rfl | assumption) (by ktr_room) (by ktr_units) _ _ _ _ _ _ _ (by omega) (by omega) (by assumption) (fun h' tk' hq' F' N' => ?_) (fun e' h' g' tk' hq' FG' RS' U' => ?_)) <;> (try k_sweep))
  k_with "compareOp IsNot" => (k_here; with_reducible refine isNot_idx ?_)
  k_with "truthy" => (k_here; with_reducible refine truthy_idx ?_)
  trivial
set_option maxRecDepth 100000 in
set_option maxHeartbeats 8000000 in
theorem c_clean (w : World) {p : Program} {loose : List Str} {mean : ExcName → Option Value} {mg mb : Str → Option Value}
  (dp un : Nat) (gd : Option (List Code)) (cn : Str) (cs : Scope) (a : Addr) (ccd : Value) (cl : List (Str × Addr)) (outer : List Env) (A₀ : Around) (base h₀ : Heap) (L : Addr) (m : Str → Option Value) (news : List (Addr × Obj)) (s : Shared) (Q E : Value → Shared → Prop)
  (B : Below A₀ base outer h₀) (F : Fr h₀ L s.heap m) (X : (hd.heap_1 w.params).In h₀) (N : News h₀ L s.heap news) (T : Top p loose mean mg mb h₀) (hk : cs.kind = .function) (hdp : dp + 6 < recursionLimit) (hun : un + 60 < cLine)
  (b sf : Array UInt8) (tb tsf k1 k2 k3 k4 k5 k6 : Tok) (sm : Value) (lf : Bool) (iv : Option Bool) (x d : Addr) (hb : b.size ≤ 64) (hsf : Safe sf) (hx : (x, instObj 114 d) ∈ news) (hd2 : (d, dictOf (fltE w k1 k2 k3 k4 k5 k6 sm sf tsf lf (idxV iv)) 6) ∈ news)
  (hret : ∀ (t : Tok) (c : Array UInt8) (h' : Heap) (tk' : Nat), cleanV sf iv b = some c → Fr h₀ L h' m → News h₀ L h' news → Q (.bytes c t) { s with heap := h', toks := tk' })
  (herr : ∀ (e : Addr) (h' g₂ : Heap) (tk' : Nat), cleanV sf iv b = none → Fr h₀ L g₂ m → RaisedSN base g₂ (envX cn cs L a ccd cl :: outer) e (.type "ValueError") news h' → g₂.UpToSlots h' → E (.ref e) { s with heap := h', toks := tk' }) :
  wpAny (model PySem.Challenge.rw_jh0007_01.row.prog w) (ktrTop dp un gd cn cs L a ccd cl outer) (call (.ref 96) [.ref x, .bytes b tb]) Q E s := by
  revert X; k_fill; intro X
  have N2 : News h₀ L s.heap ((x, instObj 114 d) :: (d, dictOf (fltE w k1 k2 k3 k4 k5 k6 sm sf tsf lf (idxV iv)) 6) :: news) := fun p hp => by
    rcases List.mem_cons.mp hp with rfl | hp
    · exact N _ hx
    · rcases List.mem_cons.mp hp with rfl | hp
      · exact N _ hd2
      · exact N _ hp
  clear N hx hd2
  have hio := inA_size b
  dsimp only [fltE] at N2
  all_goals refine wpAny_call ?_
  all_goals k_dflt cell_enter
  all_goals k_steps
  all_goals first
    | (rename News h₀ L _ _ => kN
       refine hret _ _ _ _ ?_ (by k_asm) (fun p hp => kN p (in_tl2 hp))
       first
       | exact clean_v (by assumption) rfl
       | exact clean_iv (by assumption) (by assumption) (by assumption)
       | (rw [clean_no (by assumption) (by first | exact .inl (by assumption) | exact .inr (.inl (by assumption)) | exact .inr (.inr (by assumption)))]
          first
          | (rename refuse _ _ _ = _ => hq; rw [hq]; rfl)
          | (rename (_ != _) = false => hq; have hq := refuse_isno b (inA b) hq; rw [hq]; rfl)))
    | (rename RaisedSN _ _ _ _ _ _ _ => RS
       refine herr _ _ _ _ ?_ (by assumption) (sub_sn RS (fun p hp => in_tl2 hp)) (by assumption)
       rw [clean_no (by assumption) (by first | exact .inl (by assumption) | exact .inr (.inl (by assumption)) | exact .inr (.inr (by assumption)))]
       rename refuse _ _ _ = _ => hq; rw [hq]; rfl)
set_option maxRecDepth 100000 in
set_option maxHeartbeats 8000000 in
theorem c_smudge (w : World) {p : Program} {loose : List Str} {mean : ExcName → Option Value} {mg mb : Str → Option Value}
  (dp un : Nat) (gd : Option (List Code)) (cn : Str) (cs : Scope) (a : Addr) (ccd : Value) (cl : List (Str × Addr)) (outer : List Env) (A₀ : Around) (base h₀ : Heap) (L : Addr) (m : Str → Option Value) (news : List (Addr × Obj)) (s : Shared) (Q E : Value → Shared → Prop)
  (B : Below A₀ base outer h₀) (F : Fr h₀ L s.heap m) (X : (hd.heap_1 w.params).In h₀) (N : News h₀ L s.heap news) (T : Top p loose mean mg mb h₀) (hk : cs.kind = .function) (hdp : dp + 6 < recursionLimit) (hun : un + 60 < cLine)
  (b sf : Array UInt8) (tb tsf k1 k2 k3 k4 k5 k6 : Tok) (sm : Value) (hsm : sm = .none ∨ sm = .bool true) (lf : Bool) (iv : Option Bool) (x d : Addr) (hb : b.size ≤ 32) (hsf : Safe sf) (hx : (x, instObj 114 d) ∈ news) (hd2 : (d, dictOf (fltE w k1 k2 k3 k4 k5 k6 sm sf tsf lf (idxV iv)) 6) ∈ news)
  (hret : ∀ (t : Tok) (h' : Heap) (tk' : Nat), Fr h₀ L h' m → News h₀ L h' news → Q (.bytes (smudgeV sm lf b) t) { s with heap := h', toks := tk' })
   :
  wpAny (model PySem.Challenge.rw_jh0007_01.row.prog w) (ktrTop dp un gd cn cs L a ccd cl outer) (call (.ref 104) [.ref x, .bytes b tb]) Q E s := by
  revert X; k_fill; intro X
  have N2 : News h₀ L s.heap ((x, instObj 114 d) :: (d, dictOf (fltE w k1 k2 k3 k4 k5 k6 sm sf tsf lf (idxV iv)) 6) :: news) := fun p hp => by
    rcases List.mem_cons.mp hp with rfl | hp
    · exact N _ hx
    · rcases List.mem_cons.mp hp with rfl | hp
      · exact N _ hd2
      · exact N _ hp
  clear N hx hd2
  have hio := outA_size b
  rcases hsm with rfl | rfl <;> cases lf
  all_goals dsimp only [fltE] at N2
  all_goals refine wpAny_call ?_
  all_goals k_dflt cell_enter
  all_goals k_steps
  all_goals first
    | (rename News h₀ L _ _ => kN
       refine smu_end hret ?_ (by k_asm) (fun p hp => kN p (in_tl2 hp))
       first
       | (simp [smudgeV, *]; done))
    | (exfalso
       rename refuse _ _ _ = true => hq
       rw [refuse_out] at hq; cases hq)
end
section
theorem in_mid {p a b c : Addr × Obj} {news : List (Addr × Obj)} (h : p ∈ a :: b :: news) : p ∈ a :: b :: c :: news := by
  rcases List.mem_cons.mp h with rfl | h
  · exact .head _
  · rcases List.mem_cons.mp h with rfl | h
    · exact .tail _ (.head _)
    · exact .tail _ (.tail _ (.tail _ h))
def IfMark : Prop := True
def smO (c : Bool) : Value := if c = true then .bool true else .none
theorem eq_act_bin {prog : Program} {w : World} {A : Around} {E : Value → Shared → Prop} {s : Shared} {ac : Act} {t u : Tok} {Q : Value → Shared → Prop} (hac : ac ≠ .bin) (h : Q (.bool false) s) : wpAny (model prog w) A (compareOp .Eq (.str ac.str t) (.str (PySem.Str.ofString "binary") u)) Q E s := by
  refine eq_str ?_
  rw [show (ac.str == PySem.Str.ofString "binary") = false by cases ac <;> first | exact absurd rfl hac | decide +kernel]
  exact h
theorem in_act_auto {w : World} {prog : Program} {A : Around} {E : Value → Shared → Prop} {s : Shared} {h₀ : Heap} {L : Addr} {m : PySem.Str → Option Value} {Q : Value → Shared → Prop} {ac : Act} {u : Tok} (F : Fr h₀ L s.heap m) (X : (hd.heap_1 w.params).In h₀)
    (h : Q (.bool ac.auto) s) : wpAny (model prog w) A (compareOp .In (.str ac.str u) (.ref 43)) Q E s := in_auto F X (by cases ac <;> decide +kernel) h
theorem in_act_crlf {w : World} {prog : Program} {A : Around} {E : Value → Shared → Prop} {s : Shared} {Q : Value → Shared → Prop} {ac : Act} {l : Addr} {u t1 t2 : Tok} (hT : IsTup s.heap l #[.str (PySem.Str.ofString "text-crlf") t1, .str (PySem.Str.ofString "auto-crlf") t2])
    (h : Q (.bool ac.crlf) s) : wpAny (model prog w) A (compareOp .In (.str ac.str u) (.ref l)) Q E s :=
  in_tuple_strs hT (ys := [PySem.Str.ofString "text-crlf", PySem.Str.ofString "auto-crlf"]) (by repeat constructor) (by
    rw [show ([PySem.Str.ofString "text-crlf", PySem.Str.ofString "auto-crlf"].any (· == ac.str)) = ac.crlf by cases ac <;> decide +kernel]
    exact h)
local macro_rules | `(tactic| k_room) => `(tactic| ktr_room)
local macro_rules | `(tactic| k_units) => `(tactic| ktr_units)
theorem words5 : True := by
  k_with_none
  k_with "callWith ref" => (k_here; k_dflt (refine' callWith_K (by k_asm) (by k_is) ?_; k_whole))
  k_with "compareOp In bytes bytes" => (k_here; k_dflt (refine' in_J (by k_asm) (by k_asm) (by rfl) (by decide) ?_; k_whole); intro h' tk' F' N'; (try k_sweep))
  k_with "compareOp NotIn bytes bytes" => (k_here; k_dflt (refine' notin_J (by k_asm) (by k_asm) (by rfl) (by decide) ?_; k_whole); intro h' tk' F' N'; (try k_sweep))
  k_with "compareOp Eq none bytes" => (k_here; refine eq_none_bytes ?_)
  k_with "compareOp Eq bytes str" => (k_here; refine eq_bytes_str ?_)
  k_with "subscriptTail" => (k_here; (with_reducible show wpAny _ _ (subscriptTail _ (Expr.Slice _ _ none _) (Value.bytes _ _) (Value.ref _)) _ _ _); (with_reducible rename Fr _ _ _ _ => F'); (with_reducible rename News _ _ _ _ => N'); (refine slice_J (s := ⟨_, _, _, _, _⟩) F' N' (by constructor) (by constructor) (by first | omega | ((try simp only [List.size_toArray, List.length_cons, List.length_nil]); omega)) ?_); intro h' t' k' F' N' hz'; (try k_sweep))
  k_with "subscriptTail" => (k_here; (with_reducible show wpAny _ _ (subscriptTail _ _ (Value.bytes _ _) (Value.int _ _)) _ _ _); (refine item_J (by omega) (by omega) (by omega) ?_); intro t' k')
  k_with "getMethod bytes" => (k_here; first | refine method_replace ?_ | refine method_split ?_ | refine method_join ?_ | refine method_endswith ?_)
  k_with "call builtin:bytes.endswith" => (k_here; refine call_endswith ?_)
  k_with "call builtin:bytes.replace" => (k_here; refine replace_J (by omega) ?_; intro t' k')
  k_with "call builtin:bytes.split" => (k_here; k_dflt (refine' split_J (by omega) (by k_asm) (by k_asm) ?_; k_whole); intro l' vs' ps' h' k' hv' hps' hln' hsz' F' N' l1; (try k_sweep))
  k_with "binaryOp Add bytes bytes" => (k_here; (with_reducible show wpAny _ _ (binaryOp Operator.Add (Value.bytes _ _) (Value.bytes _ _)) _ _ _); (refine KBy.add_bytes (by (try simp only [List.size_toArray, List.length_cons, List.length_nil]); omega) ?_); intro t' k')
  k_with "InvEndN" => k_dflt kst_close
  k_with "compareOp In bytes ref" => (k_here; k_dflt (refine' in_tup_bytes (by exact News.isTup (by k_asm) (by k_mem)) (by repeat constructor) ?_))
  k_with "getMethod bytes" => (k_here; refine KBd.method ?_)
  k_with "call builtin:bytes.decode" => (k_here; refine call_decode_empty ?_; intro t' k')
  k_with "compareOp In str ref" => (k_here; (with_reducible show wpAny _ _ (compareOp CmpOp.In (Value.str _ _) (Value.ref 43)) _ _ _); k_dflt (refine' in_auto (by k_asm) (by k_asm) (by first | rfl | decide +kernel) ?_; k_whole))
  k_with "compareOp Is bytes bool" => (k_here; with_reducible refine is_bb ?_)
  k_with "compareOp Is none bool" => (k_here; with_reducible refine is_nb ?_)
  k_with "ite" => first | with_reducible refine ite_tt ?_ | with_reducible refine ite_ff ?_ | with_reducible refine ite_True_then ?_ | with_reducible refine ite_False_else ?_
  k_with "compareOp Eq str str" => (k_here; with_reducible refine eq_act_bin (by with_reducible assumption) ?_)
  k_with "compareOp In str ref" => (k_here; (with_reducible show wpAny _ _ (compareOp CmpOp.In (Value.str (Act.str _) _) _) _ _ _); k_dflt (first | (refine' in_act_auto (by k_asm) (by k_asm) ?_; k_whole) | (refine' in_act_crlf (by exact News.isTup (by k_asm) (by k_mem)) ?_; k_whole)))
  k_with "execs cons" => (k_here; (with_reducible show wpAny _ _ (execs (Stmt.Assign [PySem.Expr.Name (PySem.Str.ofString "smudge") _] _ _ :: _) _) _ _ _); refine Stop.go ?_)
  k_with "eval IfExp" => (k_here; (with_reducible show wpAny _ _ (eval (PySem.Expr.IfExp _ (PySem.Expr.Name _ _) _ _) _) _ _ _); (fail_if_success (with_reducible rename IfMark => hM)); refine Stop.go ?_)
  trivial
set_option maxRecDepth 100000 in
set_option maxHeartbeats 8000000 in
theorem c_ffa_bin (w : World) {p : Program} {loose : List Str} {mean : ExcName → Option Value} {mg mb : Str → Option Value}
  (dp un : Nat) (gd : Option (List Code)) (cn : Str) (cs : Scope) (a : Addr) (ccd : Value) (cl : List (Str × Addr)) (outer : List Env) (A₀ : Around) (base h₀ : Heap) (L : Addr) (m : Str → Option Value) (news : List (Addr × Obj)) (s : Shared) (Q E : Value → Shared → Prop)
  (B : Below A₀ base outer h₀) (F : Fr h₀ L s.heap m) (X : (hd.heap_1 w.params).In h₀) (N : News h₀ L s.heap news) (T : Top p loose mean mg mb h₀) (hk : cs.kind = .function) (hdp : dp + 6 < recursionLimit) (hun : un + 60 < cLine)
  (sf : Array UInt8) (ta tsf : Tok) (iv : Option Bool) (hret : ∀ (h' : Heap) (tk' : Nat), Fr h₀ L h' m → News h₀ L h' news → Q (.none) { s with heap := h', toks := tk' }) :
  wpAny (model PySem.Challenge.rw_jh0007_01.row.prog w) (ktrTop dp un gd cn cs L a ccd cl outer) (call (.ref 73) [.str (Str.ofString "binary") ta, .bytes sf tsf, idxV iv]) Q E s := by
  revert X; k_fill; intro X
  refine wpAny_call ?_
  k_dflt cell_enter
  k_steps
  all_goals exact hret _ _ (by k_asm) (by k_asm)
set_option maxRecDepth 100000 in
set_option maxHeartbeats 8000000 in
theorem c_ffa (w : World) {p : Program} {loose : List Str} {mean : ExcName → Option Value} {mg mb : Str → Option Value}
  (dp un : Nat) (gd : Option (List Code)) (cn : Str) (cs : Scope) (a : Addr) (ccd : Value) (cl : List (Str × Addr)) (outer : List Env) (A₀ : Around) (base h₀ : Heap) (L : Addr) (m : Str → Option Value) (news : List (Addr × Obj)) (s : Shared) (Q E : Value → Shared → Prop)
  (B : Below A₀ base outer h₀) (F : Fr h₀ L s.heap m) (X : (hd.heap_1 w.params).In h₀) (N : News h₀ L s.heap news) (T : Top p loose mean mg mb h₀) (hk : cs.kind = .function) (hdp : dp + 6 < recursionLimit) (hun : un + 60 < cLine)
  (ac : Act) (hac : ac ≠ .bin) (sf : Array UInt8) (ta tsf : Tok) (iv : Option Bool) (hret : ∀ (x d : Addr) (k1 k2 k3 k4 k5 k6 : Tok) (h' : Heap) (tk' : Nat), Fr h₀ L h' m → News h₀ L h' ((x, instObj 114 d) :: (d, dictOf (fltE w k1 k2 k3 k4 k5 k6 (smO ac.crlf) sf tsf ac.auto (idxV (if ac.auto = true then iv else none))) 6) :: news) → Q (.ref x) { s with heap := h', toks := tk' }) :
  wpAny (model PySem.Challenge.rw_jh0007_01.row.prog w) (ktrTop dp un gd cn cs L a ccd cl outer) (call (.ref 73) [.str ac.str ta, .bytes sf tsf, idxV iv]) Q E s := by
  revert X; k_fill; intro X
  refine wpAny_call ?_
  k_dflt cell_enter
  k_steps
  unfold Stop
  rename Fr _ _ _ _ => kF
  rename News _ _ _ _ => kN
  refine cutSet (PySem.Str.ofString "smudge") (fun v => v = smO ac.crlf) kF kN ?a1 fun v1 h1 tk1 hv1 F1 N1 => ?_
  case a1 =>
    clear hret
    k_steps
    all_goals
      (rename Fr _ _ _ _ => pF
       rename News _ _ _ _ => pN
       refine set_end pF pN ?_ (fun q hq => by first | exact hq | exact List.mem_cons_of_mem _ hq)
       first | (rename ac.crlf = true => hc; rw [hc]; rfl) | (rename ac.crlf = false => hc; rw [hc]; rfl))
  subst hv1
  clear kF kN
  k_steps
  unfold Stop
  rename Fr _ _ _ _ => kF
  rename News _ _ _ _ => kN
  refine cutEv (fun v => v = idxV (if ac.auto = true then iv else none)) kF kN ?a2 fun v2 h2 tk2 hv2 F2 N2 => ?_
  case a2 =>
    clear hret
    have hM : IfMark := trivial
    k_steps
    all_goals
      (rename Fr _ _ _ _ => pF
       rename News _ _ _ _ => pN
       refine ev_end pF pN ?_
       first | (rename ac.auto = true => hc; rw [hc]; rfl) | (rename ac.auto = false => hc; rw [hc]; rfl))
  subst hv2
  clear kF kN
  k_steps
  all_goals
    (rename Fr h₀ L _ m => pF
     rename News h₀ L _ _ => pN
     exact hret _ _ _ _ _ _ _ _ _ _ pF (fun q hq => pN q (by first | exact hq | exact in_mid hq)))
theorem c_ffa_ti (w : World) {p : Program} {loose : List Str} {mean : ExcName → Option Value} {mg mb : Str → Option Value}
  (dp un : Nat) (gd : Option (List Code)) (cn : Str) (cs : Scope) (a : Addr) (ccd : Value) (cl : List (Str × Addr)) (outer : List Env) (A₀ : Around) (base h₀ : Heap) (L : Addr) (m : Str → Option Value) (news : List (Addr × Obj)) (s : Shared) (Q E : Value → Shared → Prop)
  (B : Below A₀ base outer h₀) (F : Fr h₀ L s.heap m) (X : (hd.heap_1 w.params).In h₀) (N : News h₀ L s.heap news) (T : Top p loose mean mg mb h₀) (hk : cs.kind = .function) (hdp : dp + 6 < recursionLimit) (hun : un + 60 < cLine)
  (sf : Array UInt8) (ta tsf : Tok) (iv : Option Bool) (hret : ∀ (x d : Addr) (k1 k2 k3 k4 k5 k6 : Tok) (h' : Heap) (tk' : Nat), Fr h₀ L h' m → News h₀ L h' ((x, instObj 114 d) :: (d, dictOf (fltE w k1 k2 k3 k4 k5 k6 .none sf tsf false (idxV none)) 6) :: news) → Q (.ref x) { s with heap := h', toks := tk' }) :
  wpAny (model PySem.Challenge.rw_jh0007_01.row.prog w) (ktrTop dp un gd cn cs L a ccd cl outer) (call (.ref 73) [.str (Str.ofString "text-input") ta, .bytes sf tsf, idxV iv]) Q E s :=
  c_ffa w dp un gd cn cs a ccd cl outer A₀ base h₀ L m news s Q E B F X N T hk hdp hun .ti (by intro h; cases h) sf ta tsf iv hret
theorem c_ffa_tc (w : World) {p : Program} {loose : List Str} {mean : ExcName → Option Value} {mg mb : Str → Option Value}
  (dp un : Nat) (gd : Option (List Code)) (cn : Str) (cs : Scope) (a : Addr) (ccd : Value) (cl : List (Str × Addr)) (outer : List Env) (A₀ : Around) (base h₀ : Heap) (L : Addr) (m : Str → Option Value) (news : List (Addr × Obj)) (s : Shared) (Q E : Value → Shared → Prop)
  (B : Below A₀ base outer h₀) (F : Fr h₀ L s.heap m) (X : (hd.heap_1 w.params).In h₀) (N : News h₀ L s.heap news) (T : Top p loose mean mg mb h₀) (hk : cs.kind = .function) (hdp : dp + 6 < recursionLimit) (hun : un + 60 < cLine)
  (sf : Array UInt8) (ta tsf : Tok) (iv : Option Bool) (hret : ∀ (x d : Addr) (k1 k2 k3 k4 k5 k6 : Tok) (h' : Heap) (tk' : Nat), Fr h₀ L h' m → News h₀ L h' ((x, instObj 114 d) :: (d, dictOf (fltE w k1 k2 k3 k4 k5 k6 (.bool true) sf tsf false (idxV none)) 6) :: news) → Q (.ref x) { s with heap := h', toks := tk' }) :
  wpAny (model PySem.Challenge.rw_jh0007_01.row.prog w) (ktrTop dp un gd cn cs L a ccd cl outer) (call (.ref 73) [.str (Str.ofString "text-crlf") ta, .bytes sf tsf, idxV iv]) Q E s :=
  c_ffa w dp un gd cn cs a ccd cl outer A₀ base h₀ L m news s Q E B F X N T hk hdp hun .tc (by intro h; cases h) sf ta tsf iv hret
theorem c_ffa_ai (w : World) {p : Program} {loose : List Str} {mean : ExcName → Option Value} {mg mb : Str → Option Value}
  (dp un : Nat) (gd : Option (List Code)) (cn : Str) (cs : Scope) (a : Addr) (ccd : Value) (cl : List (Str × Addr)) (outer : List Env) (A₀ : Around) (base h₀ : Heap) (L : Addr) (m : Str → Option Value) (news : List (Addr × Obj)) (s : Shared) (Q E : Value → Shared → Prop)
  (B : Below A₀ base outer h₀) (F : Fr h₀ L s.heap m) (X : (hd.heap_1 w.params).In h₀) (N : News h₀ L s.heap news) (T : Top p loose mean mg mb h₀) (hk : cs.kind = .function) (hdp : dp + 6 < recursionLimit) (hun : un + 60 < cLine)
  (sf : Array UInt8) (ta tsf : Tok) (iv : Option Bool) (hret : ∀ (x d : Addr) (k1 k2 k3 k4 k5 k6 : Tok) (h' : Heap) (tk' : Nat), Fr h₀ L h' m → News h₀ L h' ((x, instObj 114 d) :: (d, dictOf (fltE w k1 k2 k3 k4 k5 k6 .none sf tsf true (idxV iv)) 6) :: news) → Q (.ref x) { s with heap := h', toks := tk' }) :
  wpAny (model PySem.Challenge.rw_jh0007_01.row.prog w) (ktrTop dp un gd cn cs L a ccd cl outer) (call (.ref 73) [.str (Str.ofString "auto-input") ta, .bytes sf tsf, idxV iv]) Q E s :=
  c_ffa w dp un gd cn cs a ccd cl outer A₀ base h₀ L m news s Q E B F X N T hk hdp hun .ai (by intro h; cases h) sf ta tsf iv hret
theorem c_ffa_ac (w : World) {p : Program} {loose : List Str} {mean : ExcName → Option Value} {mg mb : Str → Option Value}
  (dp un : Nat) (gd : Option (List Code)) (cn : Str) (cs : Scope) (a : Addr) (ccd : Value) (cl : List (Str × Addr)) (outer : List Env) (A₀ : Around) (base h₀ : Heap) (L : Addr) (m : Str → Option Value) (news : List (Addr × Obj)) (s : Shared) (Q E : Value → Shared → Prop)
  (B : Below A₀ base outer h₀) (F : Fr h₀ L s.heap m) (X : (hd.heap_1 w.params).In h₀) (N : News h₀ L s.heap news) (T : Top p loose mean mg mb h₀) (hk : cs.kind = .function) (hdp : dp + 6 < recursionLimit) (hun : un + 60 < cLine)
  (sf : Array UInt8) (ta tsf : Tok) (iv : Option Bool) (hret : ∀ (x d : Addr) (k1 k2 k3 k4 k5 k6 : Tok) (h' : Heap) (tk' : Nat), Fr h₀ L h' m → News h₀ L h' ((x, instObj 114 d) :: (d, dictOf (fltE w k1 k2 k3 k4 k5 k6 (.bool true) sf tsf true (idxV iv)) 6) :: news) → Q (.ref x) { s with heap := h', toks := tk' }) :
  wpAny (model PySem.Challenge.rw_jh0007_01.row.prog w) (ktrTop dp un gd cn cs L a ccd cl outer) (call (.ref 73) [.str (Str.ofString "auto-crlf") ta, .bytes sf tsf, idxV iv]) Q E s :=
  c_ffa w dp un gd cn cs a ccd cl outer A₀ base h₀ L m news s Q E B F X N T hk hdp hun .ac (by intro h; cases h) sf ta tsf iv hret
end
section
local macro_rules | `(tactic| k_all) => `(tactic| assumption)
theorem fd_ne (x : Int) : 1 + x.fmod 3 ≠ 0 := by have := Int.fmod_nonneg_of_pos x (b := 3) (by decide); omega
theorem fd_small (x : Int) : (1 + x.fmod 3).natAbs < 1073741824 := by
  have := Int.fmod_nonneg_of_pos x (b := 3) (by decide); have := Int.fmod_lt_of_pos x (b := 3) (by decide); omega
theorem words6 : True := by
  k_with_none
  k_with "callWith ref" => (k_here; k_dflt (refine' callWith_K (by k_asm) (by k_is) ?_; k_whole))
  k_with "binaryOp FloorDiv int int" => (k_here; (with_reducible refine floordiv_int (by exact fd_ne _) ?_ (Or.inl (PyProof.noPylong_small (by exact fd_small _)))))
  trivial
set_option maxRecDepth 100000 in
set_option maxHeartbeats 8000000 in
theorem c_next0 (w : World) {p : Program} {loose : List Str} {mean : ExcName → Option Value} {mg mb : Str → Option Value}
  (dp un : Nat) (gd : Option (List Code)) (cn : Str) (cs : Scope) (a : Addr) (ccd : Value) (cl : List (Str × Addr)) (outer : List Env) (A₀ : Around) (base h₀ : Heap) (L : Addr) (m : Str → Option Value) (rest : List (Addr × Obj)) (s : Shared) (Q E : Value → Shared → Prop)
  (B : Below A₀ base outer h₀) (F : Fr h₀ L s.heap m) (X : (hd.heap_1 w.params).In h₀) (T : Top p loose mean mg mb h₀) (hk : cs.kind = .function) (hdp : dp + 3 < recursionLimit) (hun : un + 30 < cLine)
  (st l : Addr) (size place seed : Int) (tz t1 t2 : Tok) (vs : List Value) (ns : List Int) (n1 n2 : Nat) (N : News h₀ L s.heap ((st, PySem.W.listOf [.ref l, .int place t1, .int seed t2].toArray n1) :: (l, PySem.W.listOf vs.toArray n2) :: rest))
  (hst : @LT.lt Nat _ l st) (hne : ∀ p ∈ rest, p.1 ≠ st) (hi : IntsAre vs ns) (hlen : ns.length ≤ 60) (hp0 : 0 ≤ place) (hp1 : place < 100) (hs0 : 0 ≤ seed) (hs1 : seed < 997) (hz0 : 0 < size) (hz1 : size < 20)
  (hret : ∀ (r : Int) (t u1 u2 : Tok) (n1' : Nat) (h' : Heap) (tk' : Nat), 0 ≤ r → r < size → Fr h₀ L h' m → News h₀ L h' ((st, PySem.W.listOf [.ref l, .int (place + 1) u1, .int seed u2].toArray n1') :: (l, PySem.W.listOf vs.toArray n2) :: rest) → Q (.int r t) { s with heap := h', toks := tk' }) :
  wpAny (model PySem.Challenge.rw_jh0007_01.row.prog w) (ktrTop dp un gd cn cs L a ccd cl outer) (call (.ref 175) [.ref st, .int size tz]) Q E s := by
  revert X; k_fill; intro X
  refine wpAny_call ?_
  k_dflt cell_enter
  k_steps
  all_goals (refine' hret _ _ ?u1 ?u2 ?u3 _ _ (Int.fmod_nonneg_of_pos _ hz0) (Int.fmod_lt_of_pos _ hz0) ?uF ?uN; (case uF => assumption); (case uN => assumption))
theorem c_next (w : World) {p : Program} {loose : List Str} {mean : ExcName → Option Value} {mg mb : Str → Option Value}
  (dp un : Nat) (gd : Option (List Code)) (cn : Str) (cs : Scope) (a : Addr) (ccd : Value) (cl : List (Str × Addr)) (outer : List Env) (A₀ : Around) (base h₀ : Heap) (L : Addr) (m : Str → Option Value) (news : List (Addr × Obj)) (s : Shared) (Q E : Value → Shared → Prop)
  (B : Below A₀ base outer h₀) (F : Fr h₀ L s.heap m) (X : (hd.heap_1 w.params).In h₀) (N : News h₀ L s.heap news) (T : Top p loose mean mg mb h₀) (hk : cs.kind = .function) (hdp : dp + 3 < recursionLimit) (hun : un + 30 < cLine)
  (st l : Addr) (size place seed : Int) (tz t1 t2 : Tok) (vs : List Value) (ns : List Int) (n1 n2 : Nat) (nf : Obj → List (Addr × Obj)) (hU : ∀ o', Upd st (PySem.W.listOf [.ref l, .int place t1, .int seed t2].toArray n1) o' news (nf o')) (hl : (l, PySem.W.listOf vs.toArray n2) ∈ news)
  (hst : @LT.lt Nat _ l st) (hi : IntsAre vs ns) (hlen : ns.length ≤ 60) (hp0 : 0 ≤ place) (hp1 : place < 100) (hs0 : 0 ≤ seed) (hs1 : seed < 997) (hz0 : 0 < size) (hz1 : size < 20)
  (hret : ∀ (r : Int) (t u1 u2 : Tok) (n1' : Nat) (h' : Heap) (tk' : Nat), 0 ≤ r → r < size → Fr h₀ L h' m → News h₀ L h' (nf (PySem.W.listOf [.ref l, .int (place + 1) u1, .int seed u2].toArray n1')) → Q (.int r t) { s with heap := h', toks := tk' }) :
  wpAny (model PySem.Challenge.rw_jh0007_01.row.prog w) (ktrTop dp un gd cn cs L a ccd cl outer) (call (.ref 175) [.ref st, .int size tz]) Q E s := by
  obtain ⟨pre, post, e1, _, e3, e4⟩ := (hU (PySem.W.listOf [].toArray 0)).split
  refine c_next0 w dp un gd cn cs a ccd cl outer A₀ base h₀ L m (pre ++ post) s Q E B F X T hk hdp hun st l size place seed tz t1 t2 vs ns n1 n2 (fun p hp => N p ?_) hst (fun p hp => ?_) hi hlen hp0 hp1 hs0 hs1 hz0 hz1 fun r t u1 u2 n1' h' tk' r0 r1 F' N' => hret r t u1 u2 n1' h' tk' r0 r1 F' fun p hp => N' p ?_
  · rw [e1]
    rcases List.mem_cons.mp hp with rfl | hp
    · simp
    · rcases List.mem_cons.mp hp with rfl | hp
      · rw [← e1]; exact hl
      · rcases List.mem_append.mp hp with hp | hp <;> simp [hp]
  · rcases List.mem_append.mp hp with hp | hp
    · exact e3 p hp
    · exact e4 p hp
  · obtain ⟨pre', post', f1, f2, f3, f4⟩ := (hU (PySem.W.listOf [.ref l, .int (place + 1) u1, .int seed u2].toArray n1')).split
    rw [f2] at hp
    have key : ∀ q, q ∈ news → q.1 ≠ st → q ∈ pre ++ post := fun q hq hn => by
      rw [e1] at hq
      rcases List.mem_append.mp hq with hq | hq
      · simp [hq]
      · rcases List.mem_cons.mp hq with rfl | hq
        · exact absurd rfl hn
        · simp [hq]
    rcases List.mem_append.mp hp with hp | hp
    · exact .tail _ (.tail _ (key p (by rw [f1]; simp [hp]) (f3 p hp)))
    · rcases List.mem_cons.mp hp with rfl | hp
      · exact .head _
      · exact .tail _ (.tail _ (key p (by rw [f1]; simp [hp]) (f4 p hp)))
end
section
theorem nameB_K {M : Model} {A : Around} {E : Value → Shared → Prop} {s : Shared} {h₀ : Heap} {L : Addr} {m : Str → Option Value} {env : Env} {K : Frag} {mg mb : Str → Option Value} {p : Program} {loose : List Str} {x : Str} {pos : Pos} {v : Value} {Q : Value → Shared → Prop} (F : Fr h₀ L s.heap m) (X : K.In h₀) (T : TopRead p loose mg mb h₀)
    (e : nsIn K mainGlobals x = some none) (hv : bootBuiltins x = some v) (hn : x ≠ "__name__") (h : Q v s) (hg : env.globals = mainGlobals) (hb : env.builtins = builtinsNs) (hk : env.scope.kind = .function) (hx : env.kindOf x = some .globalImplicit) (hd : (x == ("__debug__" : Str)) = false) :
    wpAny M A (eval (.Name x pos) env) Q E s :=
  Name_function_global hk hx (loadGlobal_builtin (env := env) (by rw [hg]; exact T.g.keeps F.keep) (mg_none_of X T.g e) (by rw [hb]; exact T.b.keeps F.keep) ((T.builtins x hn).trans hv) h) hd
theorem words7 : True := by
  k_with_none
  k_with "callWith ref" => (k_here; k_dflt (refine' callWith_K (by k_asm) (by k_is) ?_; k_whole))
  k_with "eval Name" => (k_here; k_inBlock; (with_reducible rename Fr _ _ _ _ => kF); k_dflt (refine' nameB_K kF (by k_asm) (by k_asm) (by k_is) PyProof.Rows.boot_abs (by decide) ?_ (by rfl) (by rfl) (by rfl) (by rfl) (by decide); k_whole))
  k_with "eval ListComp" => (k_here; (try k_iter_made); (with_reducible apply ListComp_DCn); (case hh => with_unfolding_all rfl); (case hclos => with_unfolding_all rfl); (case hcell => decide); (case hkind => with_unfolding_all rfl); (case hnames => decide); (case hx => with_unfolding_all rfl); (case hs => intro _; with_unfolding_all rfl); (case' h => with_reducible refine wpAny_compPack ?_))
  k_with "call builtin:sum" => (k_here; (with_reducible show wpAny _ _ (call (Value.builtin "sum") [Value.ref _]) _ _ _); (with_unfolding_all refine' sumK (by with_unfolding_all rfl) (by k_asm) (by k_asm) (by assumption) (by exact CarriedAll.intsOf (by assumption)) ?_; k_whole); intro h' tk' t' F' N')
  trivial
set_option maxRecDepth 100000 in
set_option maxHeartbeats 8000000 in
theorem c_state (w : World) {p : Program} {loose : List Str} {mean : ExcName → Option Value} {mg mb : Str → Option Value}
  (dp un : Nat) (gd : Option (List Code)) (cn : Str) (cs : Scope) (a : Addr) (ccd : Value) (cl : List (Str × Addr)) (outer : List Env) (A₀ : Around) (base h₀ : Heap) (L : Addr) (m : Str → Option Value) (news : List (Addr × Obj)) (s : Shared) (Q E : Value → Shared → Prop)
  (B : Below A₀ base outer h₀) (F : Fr h₀ L s.heap m) (X : (hd.heap_1 w.params).In h₀) (N : News h₀ L s.heap news) (T : Top p loose mean mg mb h₀) (hk : cs.kind = .function) (hdp : dp + 3 < recursionLimit) (hun : un + 30 < cLine)
  (sl : Addr) (vs : List Value) (ns : List Int) (hsl : base.IsList sl vs.toArray) (hi : IntsAre vs ns) (hlen : ns.length ≤ 63)
  (hret : ∀ (st l : Addr) (seed : Int) (t1 t2 : Tok) (ws : List Value) (n1 n2 : Nat) (h' : Heap) (tk' : Nat), @LT.lt Nat _ l st → (∀ p ∈ news, p.1 < l) → IntsAre ws (ns.take 60) → 0 ≤ seed → seed < 997 → Fr h₀ L h' m → News h₀ L h' ((st, PySem.W.listOf [.ref l, .int 0 t1, .int seed t2].toArray n1) :: (l, PySem.W.listOf ws.toArray n2) :: news) → Q (.ref st) { s with heap := h', toks := tk' }) :
  wpAny (model PySem.Challenge.rw_jh0007_01.row.prog w) (ktrTop dp un gd cn cs L a ccd cl outer) (call (.ref 180) [.ref sl]) Q E s := by
  revert X; k_fill; intro X
  refine wpAny_call ?_
  k_dflt cell_enter
  k_steps
  all_goals ((rename News h₀ L _ _ => kN); refine' hret _ _ _ _ _ _ _ _ _ _ ?uA ?uZ ?uB ?uC ?uD ?uF ?uN; (case uF => assumption); (case uN => exact kN); (case uZ => assumption); (case uB => assumption); (case uC => exact Int.fmod_nonneg_of_pos _ (by decide)); (case uD => exact Int.fmod_lt_of_pos _ (by decide)); (case uA => (rename @LT.lt Nat _ _ _ ∧ _ => hl1; exact hl1.1)))
end
section
theorem is_bb {M : Model} {A : Around} {E : Value → Shared → Prop} {s : Shared} {b : Array UInt8} {t : Tok} {c : Bool} {Q : Value → Shared → Prop} (h : Q (.bool false) s) : wpAny M A (compareOp .Is (.bytes b t) (.bool c)) Q E s := wpAny_is_other (by rfl) (by intro x; cases x) h
theorem is_nb {M : Model} {A : Around} {E : Value → Shared → Prop} {s : Shared} {c : Bool} {Q : Value → Shared → Prop} (h : Q (.bool false) s) : wpAny M A (compareOp .Is .none (.bool c)) Q E s := wpAny_is_other (by rfl) (by intro x; cases x) h
theorem made_bn {prog : Program} {w : World} {s : Shared} {h₀ : Heap} {L d : Addr} {m : Str → Option Value} {news : List (Addr × Obj)} {g : Obj → List (Addr × Obj)} {o : Obj} {Q : Value → Shared → Prop} {vs : List (Value × Value)} {kvs kvs' : List (Option (List UInt8) × Value)} (F : Fr h₀ L s.heap m) (N : News h₀ L s.heap news) (U : UpdF d o news g) (hd : o.IsDictOf (bnKind prog w) []) (hv : Carries (bnKind prog w) vs kvs) (hm : merged [] kvs = kvs')
    (h : ∀ h' o', Fr h₀ L h' m → News h₀ L h' (g o') → o'.IsDictOf (bnKind prog w) kvs' → Q (.ref d) { s with heap := h', toks := s.toks + vs.length }) : KdnMade prog w (bnKind prog w) d Q vs s := by
  obtain ⟨pre, post, rfl, hg, a, b⟩ := U.split
  have hn := N (d, o) (List.mem_append_right _ (.head _))
  refine ⟨kvs, hv, Heap.dictOf_iff.mpr ⟨o, hn.1, hd⟩, fun h' hmm hs => ?_⟩
  rw [hm] at hmm
  obtain ⟨o', ho', hd'⟩ := Heap.dictOf_iff.mp hmm
  exact h h' o' (F.change hs hn.2.1 hn.2.2) (hg o' ▸ N.setIn a b hs ho') hd'
theorem carr_nil {prog : Program} {w : World} : Carries (bnKind prog w) [] [] := trivial
theorem carr_cons {prog : Program} {w : World} {b : Array UInt8} {t : Tok} {v : Value} {vs kvs} (h : Carries (bnKind prog w) vs kvs) : Carries (bnKind prog w) ((.bytes b t, v) :: vs) ((some b.toList, v) :: kvs) := ⟨bn_bytes, rfl, h⟩
theorem get1_bn {prog : Program} {w : World} {A : Around} {E : Value → Shared → Prop} {s : Shared} {h₀ : Heap} {L d : Addr} {news : List (Addr × Obj)} {o : Obj} {kvs : List (Option (List UInt8) × Value)} {b : Array UInt8} {t : Tok} {Q : Value → Shared → Prop} (N : News h₀ L s.heap news) (hp : (d, o) ∈ news) (hd : o.IsDictOf (bnKind prog w) kvs) (lo : (d == sysModules) = false) (h : Q ((valueAt kvs (some b.toList)).getD .none) { s with toks := s.toks + 1 }) :
    wpAny (model prog w) A (call (.builtin "dict.get") [.ref d, .bytes b t]) Q E s := kdg_get1 N hp hd lo bn_bytes _ rfl h
theorem get2_bn {prog : Program} {w : World} {A : Around} {E : Value → Shared → Prop} {s : Shared} {h₀ : Heap} {L d : Addr} {news : List (Addr × Obj)} {o : Obj} {kvs : List (Option (List UInt8) × Value)} {b : Array UInt8} {t : Tok} {dflt : Value} {Q : Value → Shared → Prop} (N : News h₀ L s.heap news) (hp : (d, o) ∈ news) (hd : o.IsDictOf (bnKind prog w) kvs) (lo : (d == sysModules) = false) (v : Value) (hv : (valueAt kvs (some b.toList)).getD dflt = v) (h : Q v { s with toks := s.toks + 1 }) :
    wpAny (model prog w) A (call (.builtin "dict.get") [.ref d, .bytes b t, dflt]) Q E s := kdg_get2 N hp hd lo bn_bytes _ rfl (by rw [hv]; exact h)
theorem get2_n {prog : Program} {w : World} {A : Around} {E : Value → Shared → Prop} {s : Shared} {h₀ : Heap} {L d : Addr} {news : List (Addr × Obj)} {o : Obj} {kvs : List (Option (List UInt8) × Value)} {dflt : Value} {Q : Value → Shared → Prop} (N : News h₀ L s.heap news) (hp : (d, o) ∈ news) (hd : o.IsDictOf (bnKind prog w) kvs) (lo : (d == sysModules) = false) (v : Value) (hv : (valueAt kvs none).getD dflt = v) (h : Q v { s with toks := s.toks + 1 }) :
    wpAny (model prog w) A (call (.builtin "dict.get") [.ref d, .none, dflt]) Q E s := kdg_get2 N hp hd lo bn_none _ rfl (by rw [hv]; exact h)
inductive AV where | no | tt | ff | inp | aut | x
def AV.val : AV → Tok → Value
  | .no, _ => .none
  | .tt, _ => .bool true
  | .ff, _ => .bool false
  | .inp, t => .bytes #[105, 110, 112, 117, 116] t
  | .aut, t => .bytes #[97, 117, 116, 111] t
  | .x, t => .bytes #[120] t
def AV.attr : AV → Str
  | .no => Str.ofString "undefined"
  | .tt => Str.ofString "text"
  | .ff => Str.ofString "binary"
  | .inp => Str.ofString "text-input"
  | .aut => Str.ofString "auto"
  | .x => Str.ofString "undefined"
def AV.kind : AV → Str
  | .no => Str.ofString ""
  | .tt => Str.ofString "text"
  | .ff => Str.ofString "binary"
  | .inp => Str.ofString "input"
  | .aut => Str.ofString "auto"
  | .x => Str.ofString ""
theorem words8 : True := by
  k_with_none
  k_with "callWith ref" => (k_here; k_dflt (refine' callWith_K (by k_asm) (by k_is) ?_; k_whole))
  k_with "compareOp In bytes bytes" => (k_here; k_dflt (refine' in_J (by k_asm) (by k_asm) (by rfl) (by decide) ?_; k_whole); intro h' tk' F' N'; (try k_sweep))
  k_with "compareOp NotIn bytes bytes" => (k_here; k_dflt (refine' notin_J (by k_asm) (by k_asm) (by rfl) (by decide) ?_; k_whole); intro h' tk' F' N'; (try k_sweep))
  k_with "compareOp Eq none bytes" => (k_here; refine eq_none_bytes ?_)
  k_with "compareOp Eq bytes str" => (k_here; refine eq_bytes_str ?_)
  k_with "subscriptTail" => (k_here; (with_reducible show wpAny _ _ (subscriptTail _ (Expr.Slice _ _ none _) (Value.bytes _ _) (Value.ref _)) _ _ _); (with_reducible rename Fr _ _ _ _ => F'); (with_reducible rename News _ _ _ _ => N'); (refine slice_J (s := ⟨_, _, _, _, _⟩) F' N' (by constructor) (by constructor) (by first | omega | ((try simp only [List.size_toArray, List.length_cons, List.length_nil]); omega)) ?_); intro h' t' k' F' N' hz'; (try k_sweep))
  k_with "subscriptTail" => (k_here; (with_reducible show wpAny _ _ (subscriptTail _ _ (Value.bytes _ _) (Value.int _ _)) _ _ _); (refine item_J (by omega) (by omega) (by omega) ?_); intro t' k')
  k_with "getMethod bytes" => (k_here; first | refine method_replace ?_ | refine method_split ?_ | refine method_join ?_ | refine method_endswith ?_)
  k_with "call builtin:bytes.endswith" => (k_here; refine call_endswith ?_)
  k_with "call builtin:bytes.replace" => (k_here; refine replace_J (by omega) ?_; intro t' k')
  k_with "call builtin:bytes.split" => (k_here; k_dflt (refine' split_J (by omega) (by k_asm) (by k_asm) ?_; k_whole); intro l' vs' ps' h' k' hv' hps' hln' hsz' F' N' l1; (try k_sweep))
  k_with "binaryOp Add bytes bytes" => (k_here; (with_reducible show wpAny _ _ (binaryOp Operator.Add (Value.bytes _ _) (Value.bytes _ _)) _ _ _); (refine KBy.add_bytes (by (try simp only [List.size_toArray, List.length_cons, List.length_nil]); omega) ?_); intro t' k')
  k_with "InvEndN" => k_dflt kst_close
  k_with "compareOp In bytes ref" => (k_here; k_dflt (refine' in_tup_bytes (by exact News.isTup (by k_asm) (by k_mem)) (by repeat constructor) ?_))
  k_with "getMethod bytes" => (k_here; refine KBd.method ?_)
  k_with "call builtin:bytes.decode" => (k_here; refine call_decode_empty ?_; intro t' k')
  k_with "compareOp In str ref" => (k_here; (with_reducible show wpAny _ _ (compareOp CmpOp.In (Value.str _ _) (Value.ref 43)) _ _ _); k_dflt (refine' in_auto (by k_asm) (by k_asm) (by first | rfl | decide +kernel) ?_; k_whole))
  k_with "compareOp Is bytes bool" => (k_here; with_reducible refine is_bb ?_)
  k_with "compareOp Is none bool" => (k_here; with_reducible refine is_nb ?_)
  k_with "ite" => first | with_reducible refine ite_tt ?_ | with_reducible refine ite_ff ?_ | with_reducible refine ite_True_then ?_ | with_reducible refine ite_False_else ?_
  k_with "eval Dict" => (k_here; (with_reducible show wpAny _ _ (eval (Expr.Dict (some (Expr.Constant (Const.bytes _) _ _) :: _) _ _) _) _ _ _); (with_reducible refine' dict_bn (by k_dflt k_asm) (by k_dflt k_asm) (by k_dflt exact TopRead.nolimit (by k_asm)) (by k_dflt rfl) (by k_dflt rfl) (by k_dflt exact List.cons_ne_nil _ _) (by k_dflt decide) ?_); k_dflt k_whole; intro d' h' o' F' N' l1 lo' hs'; (try k_lt l1); (try k_sweep))
  k_with "KdnMade" => k_dflt (refine' made_bn (by k_asm) (by k_asm) (by k_updF) (by assumption) (by first | exact carr_cons (carr_cons carr_nil) | exact carr_cons (carr_cons (carr_cons carr_nil))) (by rfl) ?_; k_whole; intro h' o' F' N' hs'; (try k_sweep))
  k_with "getMethod ref" => (k_here; (with_reducible show wpAny _ _ (getMethod (Value.ref _) "get" _) _ _ _); k_dflt (refine' kdg_method (knd := bnKind _ _) (by k_asm) (by k_mem) (by assumption) ?_))
  k_with "call builtin:dict.get" => (k_here; k_dflt (first | (refine' get2_bn (by k_asm) (by k_mem) (by assumption) (by assumption) (Value.str _ _) (by rfl) ?_) | (refine' get2_n (by k_asm) (by k_mem) (by assumption) (by assumption) (Value.str _ _) (by rfl) ?_)))
  trivial
set_option maxRecDepth 100000 in
set_option maxHeartbeats 8000000 in
theorem c_attr (w : World) {p : Program} {loose : List Str} {mean : ExcName → Option Value} {mg mb : Str → Option Value}
  (dp un : Nat) (gd : Option (List Code)) (cn : Str) (cs : Scope) (a : Addr) (ccd : Value) (cl : List (Str × Addr)) (outer : List Env) (A₀ : Around) (base h₀ : Heap) (L : Addr) (m : Str → Option Value) (news : List (Addr × Obj)) (s : Shared) (Q E : Value → Shared → Prop)
  (B : Below A₀ base outer h₀) (F : Fr h₀ L s.heap m) (X : (hd.heap_1 w.params).In h₀) (N : News h₀ L s.heap news) (T : Top p loose mean mg mb h₀) (hk : cs.kind = .function) (hdp : dp + 3 < recursionLimit) (hun : un + 30 < cLine)
  (v : AV) (tv : Tok) (hret : ∀ (t : Tok) (h' : Heap) (tk' : Nat), Fr h₀ L h' m → News h₀ L h' news → Q (.str v.attr t) { s with heap := h', toks := tk' }) :
  wpAny (model PySem.Challenge.rw_jh0007_01.row.prog w) (ktrTop dp un gd cn cs L a ccd cl outer) (call (.ref 50) [v.val tv]) Q E s := by
  revert X; k_fill; intro X
  cases v
  all_goals dsimp only [AV.val, AV.attr, AV.kind] at hret ⊢
  all_goals refine wpAny_call ?_
  all_goals k_dflt cell_enter
  all_goals k_steps
  all_goals ((rename News h₀ L _ _ => kN); exact hret _ _ _ (by k_asm) (fun p hp => kN p (by first | exact hp | exact List.mem_cons_of_mem _ hp)))
set_option maxRecDepth 100000 in
set_option maxHeartbeats 8000000 in
theorem c_kind (w : World) {p : Program} {loose : List Str} {mean : ExcName → Option Value} {mg mb : Str → Option Value}
  (dp un : Nat) (gd : Option (List Code)) (cn : Str) (cs : Scope) (a : Addr) (ccd : Value) (cl : List (Str × Addr)) (outer : List Env) (A₀ : Around) (base h₀ : Heap) (L : Addr) (m : Str → Option Value) (news : List (Addr × Obj)) (s : Shared) (Q E : Value → Shared → Prop)
  (B : Below A₀ base outer h₀) (F : Fr h₀ L s.heap m) (X : (hd.heap_1 w.params).In h₀) (N : News h₀ L s.heap news) (T : Top p loose mean mg mb h₀) (hk : cs.kind = .function) (hdp : dp + 3 < recursionLimit) (hun : un + 30 < cLine)
  (v : AV) (tv : Tok) (hret : ∀ (t : Tok) (h' : Heap) (tk' : Nat), Fr h₀ L h' m → News h₀ L h' news → Q (.str v.kind t) { s with heap := h', toks := tk' }) :
  wpAny (model PySem.Challenge.rw_jh0007_01.row.prog w) (ktrTop dp un gd cn cs L a ccd cl outer) (call (.ref 201) [v.val tv]) Q E s := by
  revert X; k_fill; intro X
  cases v
  all_goals dsimp only [AV.val, AV.attr, AV.kind] at hret ⊢
  all_goals refine wpAny_call ?_
  all_goals k_dflt cell_enter
  all_goals k_steps
  all_goals ((rename News h₀ L _ _ => kN); exact hret _ _ _ (by k_asm) (fun p hp => kN p (by first | exact hp | exact List.mem_cons_of_mem _ hp)))
end
section
def eolB (nv : Str) (wb : Array UInt8) : Bool := bif wb.toList == (#[116, 114, 117, 101] : Array UInt8).toList then true else bif wb.toList == (#[105, 110, 112, 117, 116] : Array UInt8).toList then false else nv == Str.ofString "crlf"
theorem words9 : True := by
  k_with_none
  k_with "callWith ref" => (k_here; k_dflt (refine' callWith_K (by k_asm) (by k_is) ?_; k_whole))
  k_with "compareOp In bytes bytes" => (k_here; k_dflt (refine' in_J (by k_asm) (by k_asm) (by rfl) (by decide) ?_; k_whole); intro h' tk' F' N'; (try k_sweep))
  k_with "compareOp NotIn bytes bytes" => (k_here; k_dflt (refine' notin_J (by k_asm) (by k_asm) (by rfl) (by decide) ?_; k_whole); intro h' tk' F' N'; (try k_sweep))
  k_with "compareOp Eq none bytes" => (k_here; refine eq_none_bytes ?_)
  k_with "compareOp Eq bytes str" => (k_here; refine eq_bytes_str ?_)
  k_with "subscriptTail" => (k_here; (with_reducible show wpAny _ _ (subscriptTail _ (Expr.Slice _ _ none _) (Value.bytes _ _) (Value.ref _)) _ _ _); (with_reducible rename Fr _ _ _ _ => F'); (with_reducible rename News _ _ _ _ => N'); (refine slice_J (s := ⟨_, _, _, _, _⟩) F' N' (by constructor) (by constructor) (by first | omega | ((try simp only [List.size_toArray, List.length_cons, List.length_nil]); omega)) ?_); intro h' t' k' F' N' hz'; (try k_sweep))
  k_with "subscriptTail" => (k_here; (with_reducible show wpAny _ _ (subscriptTail _ _ (Value.bytes _ _) (Value.int _ _)) _ _ _); (refine item_J (by omega) (by omega) (by omega) ?_); intro t' k')
  k_with "getMethod bytes" => (k_here; first | refine method_replace ?_ | refine method_split ?_ | refine method_join ?_ | refine method_endswith ?_)
  k_with "call builtin:bytes.endswith" => (k_here; refine call_endswith ?_)
  k_with "call builtin:bytes.replace" => (k_here; refine replace_J (by omega) ?_; intro t' k')
  k_with "call builtin:bytes.split" => (k_here; k_dflt (refine' split_J (by omega) (by k_asm) (by k_asm) ?_; k_whole); intro l' vs' ps' h' k' hv' hps' hln' hsz' F' N' l1; (try k_sweep))
  k_with "binaryOp Add bytes bytes" => (k_here; (with_reducible show wpAny _ _ (binaryOp Operator.Add (Value.bytes _ _) (Value.bytes _ _)) _ _ _); (refine KBy.add_bytes (by (try simp only [List.size_toArray, List.length_cons, List.length_nil]); omega) ?_); intro t' k')
  k_with "InvEndN" => k_dflt kst_close
  k_with "compareOp In bytes ref" => (k_here; k_dflt (refine' in_tup_bytes (by exact News.isTup (by k_asm) (by k_mem)) (by repeat constructor) ?_))
  k_with "getMethod bytes" => (k_here; refine KBd.method ?_)
  k_with "call builtin:bytes.decode" => (k_here; refine call_decode_empty ?_; intro t' k')
  k_with "compareOp In str ref" => (k_here; (with_reducible show wpAny _ _ (compareOp CmpOp.In (Value.str _ _) (Value.ref 43)) _ _ _); k_dflt (refine' in_auto (by k_asm) (by k_asm) (by first | rfl | decide +kernel) ?_; k_whole))
  k_with "compareOp Is bytes bool" => (k_here; with_reducible refine is_bb ?_)
  k_with "compareOp Is none bool" => (k_here; with_reducible refine is_nb ?_)
  k_with "ite" => first | with_reducible refine ite_tt ?_ | with_reducible refine ite_ff ?_ | with_reducible refine ite_True_then ?_ | with_reducible refine ite_False_else ?_
  k_with "eval Dict" => (k_here; (with_reducible show wpAny _ _ (eval (Expr.Dict (some (Expr.Constant (Const.bytes _) _ _) :: _) _ _) _) _ _ _); (with_reducible refine' dict_bn (by k_dflt k_asm) (by k_dflt k_asm) (by k_dflt exact TopRead.nolimit (by k_asm)) (by k_dflt rfl) (by k_dflt rfl) (by k_dflt exact List.cons_ne_nil _ _) (by k_dflt decide) ?_); k_dflt k_whole; intro d' h' o' F' N' l1 lo' hs'; (try k_lt l1); (try k_sweep))
  k_with "KdnMade" => k_dflt (refine' made_bn (by k_asm) (by k_asm) (by k_updF) (by assumption) (by first | exact carr_cons (carr_cons carr_nil) | exact carr_cons (carr_cons (carr_cons carr_nil))) (by rfl) ?_; k_whole; intro h' o' F' N' hs'; (try k_sweep))
  k_with "getMethod ref" => (k_here; (with_reducible show wpAny _ _ (getMethod (Value.ref _) "get" _) _ _ _); k_dflt (refine' kdg_method (knd := bnKind _ _) (by k_asm) (by k_mem) (by assumption) ?_))
  k_with "call builtin:dict.get" => (k_here; k_dflt (first | (refine' get2_bn (by k_asm) (by k_mem) (by assumption) (by assumption) (Value.str _ _) (by rfl) ?_) | (refine' get2_n (by k_asm) (by k_mem) (by assumption) (by assumption) (Value.str _ _) (by rfl) ?_)))
  trivial
set_option maxRecDepth 100000 in
set_option maxHeartbeats 8000000 in
theorem c_eol (w : World) {p : Program} {loose : List Str} {mean : ExcName → Option Value} {mg mb : Str → Option Value}
  (dp un : Nat) (gd : Option (List Code)) (cn : Str) (cs : Scope) (a : Addr) (ccd : Value) (cl : List (Str × Addr)) (outer : List Env) (A₀ : Around) (base h₀ : Heap) (L : Addr) (m : Str → Option Value) (news : List (Addr × Obj)) (s : Shared) (Q E : Value → Shared → Prop)
  (B : Below A₀ base outer h₀) (F : Fr h₀ L s.heap m) (X : (hd.heap_1 w.params).In h₀) (N : News h₀ L s.heap news) (T : Top p loose mean mg mb h₀) (hk : cs.kind = .function) (hdp : dp + 3 < recursionLimit) (hun : un + 30 < cLine)
  (nv : Str) (wb : Array UInt8) (tn tw : Tok) (hret : ∀ (h' : Heap) (tk' : Nat), Fr h₀ L h' m → News h₀ L h' news → Q (.bool (eolB nv wb)) { s with heap := h', toks := tk' }) :
  wpAny (model PySem.Challenge.rw_jh0007_01.row.prog w) (ktrTop dp un gd cn cs L a ccd cl outer) (call (.ref 57) [.str nv tn, .bytes wb tw]) Q E s := by
  revert X; k_fill; intro X
  refine wpAny_call ?_
  k_dflt cell_enter
  k_steps
  all_goals (refine cb_retB (fun _ => hret) ?_ (by k_asm) (by k_asm); simp only [eolB, *, cond_true, cond_false])
inductive EV where | no | lf | crlf | x
def EV.val : EV → Tok → Value
  | .no, _ => .none
  | .lf, t => .bytes #[108, 102] t
  | .crlf, t => .bytes #[99, 114, 108, 102] t
  | .x, t => .bytes #[120] t
def EV.end : EV → Str
  | .lf => Str.ofString "input"
  | .crlf => Str.ofString "crlf"
  | _ => Str.ofString ""
inductive Wish : Array UInt8 → Prop
  | no : Wish #[102, 97, 108, 115, 101]
  | yes : Wish #[116, 114, 117, 101]
  | inp : Wish #[105, 110, 112, 117, 116]
def baseA (a1 a2 : AV) : AV := match a1 with
  | .no => a2
  | .x => a2
  | _ => a1
def actF (v : AV) (e : EV) (nv : Str) (wb : Array UInt8) : Act := match v with
  | .ff => .bin
  | .inp => match e with
    | .crlf => .tc
    | _ => .ti
  | .tt => match e with
    | .lf => .ti
    | .crlf => .tc
    | _ => bif eolB nv wb then .tc else .ti
  | .aut => match e with
    | .lf => .ai
    | .crlf => .ac
    | _ => bif eolB nv wb then .ac else .ai
  | _ => match e with
    | .lf => .ti
    | .crlf => .tc
    | _ => bif wb.toList == (#[116, 114, 117, 101] : Array UInt8).toList then .ac else bif wb.toList == (#[105, 110, 112, 117, 116] : Array UInt8).toList then .ai else .bin
def updA (k : Str) (v : Value) (m : Str → Option Value) : Str → Option Value := fun y => if y = k then some v else m y
theorem updA_twice (k : Str) (v v' : Value) (m : Str → Option Value) : (fun y => if y = k then some v else if y = k then some v' else m y) = fun y => if y = k then some v else m y := by
  funext y
  by_cases h : y = k <;> simp [h]
theorem base_of_undef {a1 a2 : AV} (h : (a1.attr == Str.ofString "undefined") = true) : baseA a1 a2 = a2 := by
  cases a1 <;> first | rfl | exact absurd h (by decide +kernel)
theorem base_of_def {a1 a2 : AV} (h : (a1.attr == Str.ofString "undefined") = false) : baseA a1 a2 = a1 := by
  cases a1 <;> first | rfl | exact absurd h (by decide +kernel)
end
section
def AV.norm : AV → AV
  | .x => .no
  | v => v
theorem norm_ne_x {v : AV} (h : v.norm = .x) : False := by cases v <;> exact nomatch h
theorem norm_attr (v : AV) : v.norm.attr = v.attr := by cases v <;> rfl
theorem actF_norm (v : AV) (e : EV) (nv : Str) (wb : Array UInt8) : actF v.norm e nv wb = actF v e nv wb := by cases v <;> rfl
def ResMark (_ _ : AV) : Prop := True
def CutP (h₀ : Heap) (L : Addr) (m : Str → Option Value) (news : List (Addr × Obj)) (s : Shared) (a1 a2 : AV) (fl : Flow) (s' : Shared) : Prop :=
  fl = .next ∧ ∃ (v : AV) (t : Tok) (h : Heap) (tk : Nat), (baseA a1 a2).norm = v ∧ s' = { s with heap := h, toks := tk } ∧ Fr h₀ L h (fun y => if y = Str.ofString "action" then some (.str v.attr t) else m y) ∧ News h₀ L h news
theorem cutAct {M : Model} {A : Around} {E : Value → Shared → Prop} {s : Shared} {h₀ : Heap} {L : Addr} {m : Str → Option Value} {news : List (Addr × Obj)} {x : Value} {a1 a2 : AV} {st : Stmt} {env : Env} {Q : Flow → Shared → Prop}
    (hR : ResMark a1 a2) (hF : Fr h₀ L s.heap (fun y => if y = Str.ofString "action" then some x else m y)) (hN : News h₀ L s.heap news)
    (h1 : wpAny M A (exec st env) (CutP h₀ L m news s a1 a2) E s)
    (h2 : ∀ (v : AV) (t : Tok) (h : Heap) (tk : Nat), (baseA a1 a2).norm = v → Fr h₀ L h (fun y => if y = Str.ofString "action" then some (.str v.attr t) else m y) → News h₀ L h news → Q .next { s with heap := h, toks := tk }) : wpAny M A (exec st env) Q E s := by
  refine wpAny_mono h1 (fun fl s' h => ?_) fun _ _ e => e
  obtain ⟨rfl, v, t, h, tk, hv, rfl, F', N'⟩ := h
  exact h2 v t h tk hv F' N'
theorem cutAct_same {h₀ h : Heap} {L : Addr} {m : Str → Option Value} {news : List (Addr × Obj)} {s : Shared} {a1 a2 : AV} {t : Tok} {tk : Nat} (hx : (a1.attr == Str.ofString "undefined") = false)
    (F : Fr h₀ L h (fun y => if y = Str.ofString "action" then some (.str a1.attr t) else m y)) (N : News h₀ L h news) : CutP h₀ L m news s a1 a2 .next { s with heap := h, toks := tk } :=
  ⟨rfl, _, t, h, tk, rfl, rfl, by rw [base_of_def hx, norm_attr]; exact F, N⟩
theorem cutAct_new {h₀ h : Heap} {L : Addr} {m : Str → Option Value} {news : List (Addr × Obj)} {s : Shared} {a1 a2 : AV} {t t' : Tok} {tk : Nat} (hx : (a1.attr == Str.ofString "undefined") = true)
    (F : Fr h₀ L h (fun y => if y = Str.ofString "action" then some (.str a2.attr t) else if y = Str.ofString "action" then some (.str a1.attr t') else m y)) (N : News h₀ L h news) : CutP h₀ L m news s a1 a2 .next { s with heap := h, toks := tk } :=
  ⟨rfl, _, t, h, tk, rfl, rfl, by rw [base_of_undef hx, norm_attr]; rw [updA_twice] at F; exact F, N⟩
theorem get1_bnv {prog : Program} {w : World} {A : Around} {E : Value → Shared → Prop} {s : Shared} {h₀ : Heap} {L d : Addr} {news : List (Addr × Obj)} {o : Obj} {kvs : List (Option (List UInt8) × Value)} {b : Array UInt8} {t : Tok} {v : Value} {Q : Value → Shared → Prop} (N : News h₀ L s.heap news) (hp : (d, o) ∈ news) (hd : o.IsDictOf (bnKind prog w) kvs) (lo : (d == sysModules) = false) (hv : (valueAt kvs (some b.toList)).getD .none = v) (h : Q v { s with toks := s.toks + 1 }) :
    wpAny (model prog w) A (call (.builtin "dict.get") [.ref d, .bytes b t]) Q E s := by subst hv; exact get1_bn N hp hd lo h
def EV.bs : EV → Option (List UInt8)
  | .no => none
  | .lf => some [108, 102]
  | .crlf => some [99, 114, 108, 102]
  | .x => some [120]
def evIs (e : EV) (b : Array UInt8) : Bool := match e.bs with
  | none => false
  | some l => decide (l = b.toList)
theorem beq_dec (x y : List UInt8) : (x == y) = decide (x = y) := by by_cases h : x = y <;> simp [h]
theorem eq_ev {prog : Program} {w : World} {A : Around} {E : Value → Shared → Prop} {s : Shared} {Q : Value → Shared → Prop} {e : EV} {t u : Tok} {b : Array UInt8} (h : Q (.bool (evIs e b)) s) : wpAny (model prog w) A (compareOp .Eq (e.val t) (.bytes b u)) Q E s := by
  cases e
  · exact eq_none_bytes h
  all_goals exact eq_bytes (by rw [beq_dec]; exact h)
theorem ev_lf {e : EV} (h : evIs e #[108, 102] = true) : e = .lf := by
  cases e <;> first | rfl | exact absurd h (by decide)
theorem ev_crlf {e : EV} (h : evIs e #[99, 114, 108, 102] = true) : e = .crlf := by
  cases e <;> first | rfl | exact absurd h (by decide)
theorem ev_other {e : EV} {v : AV} {nv : Str} {wb : Array UInt8} (h : evIs e #[108, 102] = false) (h2 : evIs e #[99, 114, 108, 102] = false) : actF v e nv wb = actF v .no nv wb := by
  cases e
  · rfl
  · exact absurd h (by decide)
  · exact absurd h2 (by decide)
  · rfl
theorem act_ff {e : EV} {nv : Str} {wb : Array UInt8} : actF .ff e nv wb = .bin := rfl
local macro_rules | `(tactic| k_room) => `(tactic| ktr_room)
local macro_rules | `(tactic| k_units) => `(tactic| ktr_units)
theorem words10 : True := by
  k_with_none
  k_with "callWith ref" => (k_here; k_dflt (refine' callWith_K (by k_asm) (by k_is) ?_; k_whole))
  k_with "compareOp In bytes bytes" => (k_here; k_dflt (refine' in_J (by k_asm) (by k_asm) (by rfl) (by decide) ?_; k_whole); intro h' tk' F' N'; (try k_sweep))
  k_with "compareOp NotIn bytes bytes" => (k_here; k_dflt (refine' notin_J (by k_asm) (by k_asm) (by rfl) (by decide) ?_; k_whole); intro h' tk' F' N'; (try k_sweep))
  k_with "compareOp Eq none bytes" => (k_here; refine eq_none_bytes ?_)
  k_with "compareOp Eq bytes str" => (k_here; refine eq_bytes_str ?_)
  k_with "subscriptTail" => (k_here; (with_reducible show wpAny _ _ (subscriptTail _ (Expr.Slice _ _ none _) (Value.bytes _ _) (Value.ref _)) _ _ _); (with_reducible rename Fr _ _ _ _ => F'); (with_reducible rename News _ _ _ _ => N'); (refine slice_J (s := ⟨_, _, _, _, _⟩) F' N' (by constructor) (by constructor) (by first | omega | ((try simp only [List.size_toArray, List.length_cons, List.length_nil]); omega)) ?_); intro h' t' k' F' N' hz'; (try k_sweep))
  k_with "subscriptTail" => (k_here; (with_reducible show wpAny _ _ (subscriptTail _ _ (Value.bytes _ _) (Value.int _ _)) _ _ _); (refine item_J (by omega) (by omega) (by omega) ?_); intro t' k')
  k_with "getMethod bytes" => (k_here; first | refine method_replace ?_ | refine method_split ?_ | refine method_join ?_ | refine method_endswith ?_)
  k_with "call builtin:bytes.endswith" => (k_here; refine call_endswith ?_)
  k_with "call builtin:bytes.replace" => (k_here; refine replace_J (by omega) ?_; intro t' k')
  k_with "call builtin:bytes.split" => (k_here; k_dflt (refine' split_J (by omega) (by k_asm) (by k_asm) ?_; k_whole); intro l' vs' ps' h' k' hv' hps' hln' hsz' F' N' l1; (try k_sweep))
  k_with "binaryOp Add bytes bytes" => (k_here; (with_reducible show wpAny _ _ (binaryOp Operator.Add (Value.bytes _ _) (Value.bytes _ _)) _ _ _); (refine KBy.add_bytes (by (try simp only [List.size_toArray, List.length_cons, List.length_nil]); omega) ?_); intro t' k')
  k_with "InvEndN" => k_dflt kst_close
  k_with "compareOp In bytes ref" => (k_here; k_dflt (refine' in_tup_bytes (by exact News.isTup (by k_asm) (by k_mem)) (by repeat constructor) ?_))
  k_with "getMethod bytes" => (k_here; refine KBd.method ?_)
  k_with "call builtin:bytes.decode" => (k_here; refine call_decode_empty ?_; intro t' k')
  k_with "compareOp In str ref" => (k_here; (with_reducible show wpAny _ _ (compareOp CmpOp.In (Value.str _ _) (Value.ref 43)) _ _ _); k_dflt (refine' in_auto (by k_asm) (by k_asm) (by first | rfl | decide +kernel) ?_; k_whole))
  k_with "compareOp Is bytes bool" => (k_here; with_reducible refine is_bb ?_)
  k_with "compareOp Is none bool" => (k_here; with_reducible refine is_nb ?_)
  k_with "ite" => first | with_reducible refine ite_tt ?_ | with_reducible refine ite_ff ?_ | with_reducible refine ite_True_then ?_ | with_reducible refine ite_False_else ?_
  k_with "eval Dict" => (k_here; (with_reducible show wpAny _ _ (eval (Expr.Dict (some (Expr.Constant (Const.bytes _) _ _) :: _) _ _) _) _ _ _); (with_reducible refine' dict_bn (by k_dflt k_asm) (by k_dflt k_asm) (by k_dflt exact TopRead.nolimit (by k_asm)) (by k_dflt rfl) (by k_dflt rfl) (by k_dflt exact List.cons_ne_nil _ _) (by k_dflt decide) ?_); k_dflt k_whole; intro d' h' o' F' N' l1 lo' hs'; (try k_lt l1); (try k_sweep))
  k_with "KdnMade" => k_dflt (refine' made_bn (by k_asm) (by k_asm) (by k_updF) (by assumption) (by first | exact carr_cons (carr_cons carr_nil) | exact carr_cons (carr_cons (carr_cons carr_nil))) (by rfl) ?_; k_whole; intro h' o' F' N' hs'; (try k_sweep))
  k_with "getMethod ref" => (k_here; (with_reducible show wpAny _ _ (getMethod (Value.ref _) "get" _) _ _ _); k_dflt (refine' kdg_method (knd := bnKind _ _) (by k_asm) (by k_mem) (by assumption) ?_))
  k_with "call builtin:dict.get" => (k_here; k_dflt (first | (refine' get2_bn (by k_asm) (by k_mem) (by assumption) (by assumption) (Value.str _ _) (by rfl) ?_) | (refine' get2_n (by k_asm) (by k_mem) (by assumption) (by assumption) (Value.str _ _) (by rfl) ?_)))
  k_with "compareOp Eq" => (k_here; (with_reducible show wpAny _ _ (compareOp CmpOp.Eq (EV.val _ _) (Value.bytes _ _)) _ _ _); refine eq_ev ?_)
  k_with "call builtin:dict.get" => (k_here; (with_reducible show wpAny _ _ (call _ [Value.ref _, Value.bytes _ _]) _ _ _); k_dflt (refine' get1_bnv (by k_asm) (by k_mem) (by assumption) (by assumption) (by assumption) ?_))
  k_with "exec If" => (k_here; (with_reducible show wpAny _ _ (exec (Stmt.If _ [Stmt.Assign _ (Expr.Call _ _ _ _) _] _ _) _) _ _ _); (fail_if_success (with_reducible show wpAny _ _ _ (CutP _ _ _ _ _ _ _) _ _)); k_dflt (refine' cutAct (by assumption) (by k_asm) (by k_asm) ?_ ?_))
  k_with "CutP" => (k_dflt first | (refine' cutAct_same (by assumption) (by k_asm) (by k_asm)) | (refine' cutAct_new (by assumption) (by k_asm) (by k_asm)))
  k_with "forall" => ((with_reducible show ∀ (v : AV) (_ : Tok) (_ : Heap) (_ : Nat), (baseA _ _).norm = v → _); intro v' t' h' tk' hv' F' N'; cases v' <;> first | exact (norm_ne_x hv').elim | (dsimp only [AV.attr] at F'; try k_sweep))
  k_with "call ref" => (k_here; (with_reducible show wpAny _ _ (call (Value.ref 50) [AV.val _ _]) _ _ _); k_dflt (refine' c_attr _ _ _ _ _ _ _ _ _ _ _ _ _ _ _ _ _ _ _ (by k_asm) (by k_asm) (by k_asm) (by k_asm) (by k_asm) (by first | exact rfl | assumption) (by ktr_room) (by ktr_units) _ _ ?_; ); intro t' h' tk' F' N'; (try k_sweep))
  k_with "call ref" => (k_here; (with_reducible show wpAny _ _ (call (Value.ref 57) [Value.str _ _, Value.bytes _ _]) _ _ _); k_dflt (refine' c_eol _ _ _ _ _ _ _ _ _ _ _ _ _ _ _ _ _ _ _ (by k_asm) (by k_asm) (by k_asm) (by k_asm) (by k_asm) (by first | exact rfl | assumption) (by ktr_room) (by ktr_units) _ _ _ _ ?_; ); intro h' tk' F' N'; (try k_sweep))
  trivial
set_option maxRecDepth 100000 in
set_option maxHeartbeats 8000000 in
theorem c_res (w : World) {p : Program} {loose : List Str} {mean : ExcName → Option Value} {mg mb : Str → Option Value}
  (dp un : Nat) (gd : Option (List Code)) (cn : Str) (cs : Scope) (a : Addr) (ccd : Value) (cl : List (Str × Addr)) (outer : List Env) (A₀ : Around) (base h₀ : Heap) (L : Addr) (m : Str → Option Value) (news : List (Addr × Obj)) (s : Shared) (Q E : Value → Shared → Prop)
  (B : Below A₀ base outer h₀) (F : Fr h₀ L s.heap m) (X : (hd.heap_1 w.params).In h₀) (N : News h₀ L s.heap news) (T : Top p loose mean mg mb h₀) (hk : cs.kind = .function) (hdp : dp + 6 < recursionLimit) (hun : un + 60 < cLine)
  (td : Addr) (o : Obj) (kvs : List (Option (List UInt8) × Value)) (a1 a2 : AV) (e : EV) (nv : Str) (wb : Array UInt8) (t1 t2 t3 tn tw : Tok) (hd : o.IsDictOf (bnKind PySem.Challenge.rw_jh0007_01.row.prog w) kvs) (hm : (td, o) ∈ news) (lo : (td == sysModules) = false)
  (hA : (valueAt kvs (some (#[116, 101, 120, 116] : Array UInt8).toList)).getD .none = a1.val t1) (hB : (valueAt kvs (some (#[99, 114, 108, 102] : Array UInt8).toList)).getD .none = a2.val t2) (hE : (valueAt kvs (some (#[101, 111, 108] : Array UInt8).toList)).getD .none = e.val t3)
  (hret : ∀ (t : Tok) (h' : Heap) (tk' : Nat), Fr h₀ L h' m → News h₀ L h' news → Q (.str (actF (baseA a1 a2) e nv wb).str t) { s with heap := h', toks := tk' }) :
  wpAny (model PySem.Challenge.rw_jh0007_01.row.prog w) (ktrTop dp un gd cn cs L a ccd cl outer) (call (.ref 65) [.ref td, .str nv tn, .bytes wb tw]) Q E s := by
  revert X; k_fill; intro X
  have hMk : KstMark := kstMark
  have hRm : ResMark a1 a2 := trivial
  have N2 : News h₀ L s.heap ((td, o) :: news) := fun p hp => by
    rcases List.mem_cons.mp hp with rfl | hp
    · exact N _ hm
    · exact N _ hp
  clear N hm
  all_goals refine wpAny_call ?_
  all_goals k_dflt cell_enter
  all_goals k_steps
  all_goals first
    | exact absurd (((by with_reducible assumption : evIs e #[108, 102] = true)).symm.trans (by with_reducible assumption : evIs e #[108, 102] = false)) (by decide)
    | exact absurd (((by with_reducible assumption : evIs e #[99, 114, 108, 102] = true)).symm.trans (by with_reducible assumption : evIs e #[99, 114, 108, 102] = false)) (by decide)
    | ((rename News h₀ L _ _ => kN); (rename AV.norm _ = _ => hv)
       refine cb_retS hret ?_ (by k_asm) (fun p hp => kN p (by simp only [List.mem_cons, hp, or_true]))
       rw [← actF_norm, hv]
       first
       | (have he := ev_lf (by with_reducible assumption : evIs e #[108, 102] = true); subst he; rfl)
       | (have he := ev_crlf (by with_reducible assumption : evIs e #[99, 114, 108, 102] = true); subst he; rfl)
       | (rw [ev_other (by with_reducible assumption : evIs e #[108, 102] = false) (by with_reducible assumption : evIs e #[99, 114, 108, 102] = false)]; simp only [actF, *, cond_true, cond_false]; done)
       | (rw [ev_other (by with_reducible assumption : evIs e #[108, 102] = false) (by with_reducible assumption : evIs e #[99, 114, 108, 102] = false)]; simp only [actF, *, cond_true, cond_false]; rfl)
       | (rw [act_ff]; rfl))
end
section
def KindMark (_ _ : AV) : Prop := True
def CutK (h₀ : Heap) (L : Addr) (m : Str → Option Value) (news : List (Addr × Obj)) (s : Shared) (a1 a2 : AV) (fl : Flow) (s' : Shared) : Prop :=
  fl = .next ∧ ∃ (v : AV) (t : Tok) (h : Heap) (tk : Nat), (baseA a1 a2).norm = v ∧ s' = { s with heap := h, toks := tk } ∧ Fr h₀ L h (fun y => if y = Str.ofString "kind" then some (.str v.kind t) else m y) ∧ News h₀ L h news
theorem cutKind {M : Model} {A : Around} {E : Value → Shared → Prop} {s : Shared} {h₀ : Heap} {L : Addr} {m : Str → Option Value} {news : List (Addr × Obj)} {a1 a2 : AV} {st : Stmt} {env : Env} {Q : Flow → Shared → Prop}
    (hR : KindMark a1 a2) (hF : Fr h₀ L s.heap m) (hN : News h₀ L s.heap news)
    (h1 : wpAny M A (exec st env) (CutK h₀ L m news s a1 a2) E s)
    (h2 : ∀ (v : AV) (t : Tok) (h : Heap) (tk : Nat), (baseA a1 a2).norm = v → Fr h₀ L h (fun y => if y = Str.ofString "kind" then some (.str v.kind t) else m y) → News h₀ L h news → Q .next { s with heap := h, toks := tk }) : wpAny M A (exec st env) Q E s := by
  refine wpAny_mono h1 (fun fl s' h => ?_) fun _ _ e => e
  obtain ⟨rfl, v, t, h, tk, hv, rfl, F', N'⟩ := h
  exact h2 v t h tk hv F' N'
theorem norm_kind (v : AV) : v.norm.kind = v.kind := by cases v <;> rfl
def kindB : AV → Bool
  | .no => false
  | .x => false
  | _ => true
theorem truthy_kind {prog : Program} {w : World} {A : Around} {E : Value → Shared → Prop} {s : Shared} {a : AV} {t : Tok} {Q : Bool → Shared → Prop} (h : ∀ tk, Q (kindB a) { s with toks := tk }) : wpAny (model prog w) A (truthy (.str a.kind t)) Q E s := by
  refine P.truthy_str (by cases a <;> decide +kernel) ?_
  rw [show ((a.kind.length : Int) != 0) = kindB a from by cases a <;> decide +kernel]
  exact h _
theorem get2_ev {prog : Program} {w : World} {A : Around} {E : Value → Shared → Prop} {s : Shared} {h₀ : Heap} {L d : Addr} {news : List (Addr × Obj)} {o : Obj} {e : EV} {t u1 u2 u3 : Tok} {Q : Value → Shared → Prop} (N : News h₀ L s.heap news) (hp : (d, o) ∈ news) (hd : o.IsDictOf (bnKind prog w) (merged [] [(some (#[108, 102] : Array UInt8).toList, .str (Str.ofString "input") u1), (some (#[99, 114, 108, 102] : Array UInt8).toList, .str (Str.ofString "crlf") u2)])) (lo : (d == sysModules) = false)
    (h : ∀ t', Q (.str e.end t') { s with toks := s.toks + 1 }) : wpAny (model prog w) A (call (.builtin "dict.get") [.ref d, e.val t, .str (Str.ofString "") u3]) Q E s := by
  cases e
  · exact kdg_get2 N hp hd lo bn_none none rfl (h _)
  · exact kdg_get2 N hp hd lo bn_bytes (some (.str (Str.ofString "input") u1)) rfl (h _)
  · exact kdg_get2 N hp hd lo bn_bytes (some (.str (Str.ofString "crlf") u2)) rfl (h _)
  · exact kdg_get2 N hp hd lo bn_bytes none rfl (h _)
def wishS (wb : Array UInt8) (x : Str) : Str := bif wb.toList == (#[116, 114, 117, 101] : Array UInt8).toList then Str.ofString "crlf" else bif wb.toList == (#[105, 110, 112, 117, 116] : Array UInt8).toList then Str.ofString "input" else x
theorem item_wish {prog : Program} {w : World} {A : Around} {E : Value → Shared → Prop} {s : Shared} {h₀ : Heap} {L d : Addr} {news : List (Addr × Obj)} {o : Obj} {wb : Array UInt8} {t u1 u2 u3 : Tok} {x : Str} {value slice : PySem.Expr} {Q : Value → Shared → Prop} (hW : Wish wb) (N : News h₀ L s.heap news) (hp : (d, o) ∈ news)
    (hd : o.IsDictOf (bnKind prog w) (merged [] [(some (#[116, 114, 117, 101] : Array UInt8).toList, .str (Str.ofString "crlf") u1), (some (#[105, 110, 112, 117, 116] : Array UInt8).toList, .str (Str.ofString "input") u2), (some (#[102, 97, 108, 115, 101] : Array UInt8).toList, .str x u3)]))
    (h : ∀ t', Q (.str (wishS wb x) t') { s with toks := s.toks + 1 })
    (hs : ∀ key, subscripted slice false (.ref d) key = operate [.ref d, key] (getItem (.ref d) key)) (hg : ∀ r, letTemporaryGo value (.ref d) r = pure ()) : wpAny (model prog w) A (subscriptTail value slice (.ref d) (.bytes wb t)) Q E s := by
  cases hW
  · exact kda_item N hp hd bn_bytes rfl (h u3) (hs _) hg
  · exact kda_item N hp hd bn_bytes rfl (h u1) (hs _) hg
  · exact kda_item N hp hd bn_bytes rfl (h u2) (hs _) hg
theorem end_len (e : EV) : e.end.length ≤ 10 := by cases e <;> decide +kernel
theorem wishS_len {wb : Array UInt8} {x : Str} (hW : Wish wb) (hx : x.length ≤ 10) : (wishS wb x).length ≤ 10 := by
  cases hW
  · exact hx
  · exact (by decide +kernel : (Str.ofString "crlf").length ≤ 10)
  · exact (by decide +kernel : (Str.ofString "input").length ≤ 10)
theorem add_small {prog : Program} {w : World} {A : Around} {E : Value → Shared → Prop} {s : Shared} {x y : Str} {t u : Tok} {Q : Value → Shared → Prop} (hx : x.length ≤ 10) (hy : y.length ≤ 10) (h : ∀ t' tk, Q (.str (x ++ y) t') { s with toks := tk }) : wpAny (model prog w) A (binaryOp .Add (.str x t) (.str y u)) Q E s :=
  SBL.add (fun t' tk _ => h t' tk) (by rw [sizeLine_eq]; omega)
theorem kind_def {a1 a2 : AV} (h : kindB a1 = true) : baseA a1 a2 = a1 := by
  cases a1 <;> first | rfl | exact absurd h (by decide +kernel)
theorem kind_undef {a1 a2 : AV} (h : kindB a1 = false) : baseA a1 a2 = a2 := by
  cases a1 <;> first | rfl | exact absurd h (by decide +kernel)
theorem cutK_1 {h₀ h : Heap} {L : Addr} {m : Str → Option Value} {news : List (Addr × Obj)} {s : Shared} {a1 a2 : AV} {t : Tok} {tk : Nat} (hx : kindB a1 = true)
    (F : Fr h₀ L h (fun y => if y = Str.ofString "kind" then some (.str a1.kind t) else m y)) (N : News h₀ L h news) : CutK h₀ L m news s a1 a2 .next { s with heap := h, toks := tk } :=
  ⟨rfl, _, t, h, tk, rfl, rfl, by rw [kind_def hx, norm_kind]; exact F, N⟩
theorem cutK_2 {h₀ h : Heap} {L : Addr} {m : Str → Option Value} {news : List (Addr × Obj)} {s : Shared} {a1 a2 : AV} {t : Tok} {tk : Nat} (hx : kindB a1 = false)
    (F : Fr h₀ L h (fun y => if y = Str.ofString "kind" then some (.str a2.kind t) else m y)) (N : News h₀ L h news) : CutK h₀ L m news s a1 a2 .next { s with heap := h, toks := tk } :=
  ⟨rfl, _, t, h, tk, rfl, rfl, by rw [kind_undef hx, norm_kind]; exact F, N⟩
theorem e_none {v : AV} {e : EV} {nv : Str} {wb : Array UInt8} (h : (e.end == Str.ofString "") = true) : actF v e nv wb = actF v .no nv wb := by
  cases e
  · rfl
  · exact absurd h (by decide +kernel)
  · exact absurd h (by decide +kernel)
  · rfl
theorem e_text {v : AV} {e : EV} {nv : Str} {wb : Array UInt8} (h : (e.end == Str.ofString "") = false) (hv : v = .no ∨ v = .tt ∨ v = .inp) : Str.ofString "text-" ++ e.end = (actF v e nv wb).str := by
  cases e
  · exact absurd h (by decide +kernel)
  · have e1 : actF v .lf nv wb = .ti := by rcases hv with rfl | rfl | rfl <;> rfl
    rw [e1]; decide +kernel
  · have e1 : actF v .crlf nv wb = .tc := by rcases hv with rfl | rfl | rfl <;> rfl
    rw [e1]; decide +kernel
  · exact absurd h (by decide +kernel)
theorem e_auto {e : EV} {nv : Str} {wb : Array UInt8} (h : (e.end == Str.ofString "") = false) : Str.ofString "auto-" ++ e.end = (actF .aut e nv wb).str := by
  cases e
  · exact absurd h (by decide +kernel)
  · show Str.ofString "auto-" ++ Str.ofString "input" = Str.ofString "auto-input"; decide +kernel
  · show Str.ofString "auto-" ++ Str.ofString "crlf" = Str.ofString "auto-crlf"; decide +kernel
  · exact absurd h (by decide +kernel)
theorem n_bin {e : EV} {nv : Str} {wb : Array UInt8} (hW : Wish wb) (h : (e.end == Str.ofString "") = true) (hb : (wb.toList == (#[102, 97, 108, 115, 101] : Array UInt8).toList) = true) : Str.ofString "binary" = (actF .no e nv wb).str := by
  rw [e_none h]
  cases hW
  · rfl
  · exact absurd hb (by decide +kernel)
  · exact absurd hb (by decide +kernel)
theorem n_crlf {e : EV} {nv : Str} {wb : Array UInt8} (hW : Wish wb) (h : (e.end == Str.ofString "") = true) (hb : (wb.toList == (#[116, 114, 117, 101] : Array UInt8).toList) = true) : Str.ofString "auto-" ++ Str.ofString "crlf" = (actF .no e nv wb).str := by
  rw [e_none h]
  cases hW
  · exact absurd hb (by decide +kernel)
  · show _ = Str.ofString "auto-crlf"; decide +kernel
  · exact absurd hb (by decide +kernel)
theorem n_input {e : EV} {nv : Str} {wb : Array UInt8} (hW : Wish wb) (h : (e.end == Str.ofString "") = true) (hb : (wb.toList == (#[102, 97, 108, 115, 101] : Array UInt8).toList) = false) (hc : (wb.toList == (#[116, 114, 117, 101] : Array UInt8).toList) = false) : Str.ofString "auto-" ++ Str.ofString "input" = (actF .no e nv wb).str := by
  rw [e_none h]
  cases hW
  · exact absurd hb (by decide +kernel)
  · exact absurd hc (by decide +kernel)
  · show _ = Str.ofString "auto-input"; decide +kernel
theorem i_input {e : EV} {nv : Str} {wb : Array UInt8} (h : (e.end == Str.ofString "") = true) : Str.ofString "text-" ++ Str.ofString "input" = (actF .inp e nv wb).str := by
  rw [e_none h]
  show _ = Str.ofString "text-input"; decide +kernel
theorem w_crlf {nv : Str} {wb : Array UInt8} (hW : Wish wb) (hn : (nv == Str.ofString "crlf") = true) : wishS wb (Str.ofString "crlf") = bif eolB nv wb then Str.ofString "crlf" else Str.ofString "input" := by
  cases hW
  · rw [show eolB nv #[102, 97, 108, 115, 101] = (nv == Str.ofString "crlf") from rfl, hn]; rfl
  · rfl
  · rfl
theorem w_input {nv : Str} {wb : Array UInt8} (hW : Wish wb) (hn : (nv == Str.ofString "crlf") = false) : wishS wb (Str.ofString "input") = bif eolB nv wb then Str.ofString "crlf" else Str.ofString "input" := by
  cases hW
  · rw [show eolB nv #[102, 97, 108, 115, 101] = (nv == Str.ofString "crlf") from rfl, hn]; rfl
  · rfl
  · rfl
theorem t_wish {e : EV} {nv : Str} {wb : Array UInt8} {x : Str} (h : (e.end == Str.ofString "") = true) (hx : x = bif eolB nv wb then Str.ofString "crlf" else Str.ofString "input") : Str.ofString "text-" ++ x = (actF .tt e nv wb).str := by
  rw [e_none h, hx]
  show _ = (bif eolB nv wb then Act.tc else Act.ti).str
  cases eolB nv wb
  · show Str.ofString "text-" ++ Str.ofString "input" = Str.ofString "text-input"; decide +kernel
  · show Str.ofString "text-" ++ Str.ofString "crlf" = Str.ofString "text-crlf"; decide +kernel
theorem a_wish {e : EV} {nv : Str} {wb : Array UInt8} {x : Str} (h : (e.end == Str.ofString "") = true) (hx : x = bif eolB nv wb then Str.ofString "crlf" else Str.ofString "input") : Str.ofString "auto-" ++ x = (actF .aut e nv wb).str := by
  rw [e_none h, hx]
  show _ = (bif eolB nv wb then Act.ac else Act.ai).str
  cases eolB nv wb
  · show Str.ofString "auto-" ++ Str.ofString "input" = Str.ofString "auto-input"; decide +kernel
  · show Str.ofString "auto-" ++ Str.ofString "crlf" = Str.ofString "auto-crlf"; decide +kernel
local macro_rules | `(tactic| k_room) => `(tactic| ktr_room)
local macro_rules | `(tactic| k_units) => `(tactic| ktr_units)
theorem words11 : True := by
  k_with_none
  k_with "callWith ref" => (k_here; k_dflt (refine' callWith_K (by k_asm) (by k_is) ?_; k_whole))
  k_with "compareOp In bytes bytes" => (k_here; k_dflt (refine' in_J (by k_asm) (by k_asm) (by rfl) (by decide) ?_; k_whole); intro h' tk' F' N'; (try k_sweep))
  k_with "compareOp NotIn bytes bytes" => (k_here; k_dflt (refine' notin_J (by k_asm) (by k_asm) (by rfl) (by decide) ?_; k_whole); intro h' tk' F' N'; (try k_sweep))
  k_with "compareOp Eq none bytes" => (k_here; refine eq_none_bytes ?_)
  k_with "compareOp Eq bytes str" => (k_here; refine eq_bytes_str ?_)
  k_with "subscriptTail" => (k_here; (with_reducible show wpAny _ _ (subscriptTail _ (Expr.Slice _ _ none _) (Value.bytes _ _) (Value.ref _)) _ _ _); (with_reducible rename Fr _ _ _ _ => F'); (with_reducible rename News _ _ _ _ => N'); (refine slice_J (s := ⟨_, _, _, _, _⟩) F' N' (by constructor) (by constructor) (by first | omega | ((try simp only [List.size_toArray, List.length_cons, List.length_nil]); omega)) ?_); intro h' t' k' F' N' hz'; (try k_sweep))
  k_with "subscriptTail" => (k_here; (with_reducible show wpAny _ _ (subscriptTail _ _ (Value.bytes _ _) (Value.int _ _)) _ _ _); (refine item_J (by omega) (by omega) (by omega) ?_); intro t' k')
  k_with "getMethod bytes" => (k_here; first | refine method_replace ?_ | refine method_split ?_ | refine method_join ?_ | refine method_endswith ?_)
  k_with "call builtin:bytes.endswith" => (k_here; refine call_endswith ?_)
  k_with "call builtin:bytes.replace" => (k_here; refine replace_J (by omega) ?_; intro t' k')
  k_with "call builtin:bytes.split" => (k_here; k_dflt (refine' split_J (by omega) (by k_asm) (by k_asm) ?_; k_whole); intro l' vs' ps' h' k' hv' hps' hln' hsz' F' N' l1; (try k_sweep))
  k_with "binaryOp Add bytes bytes" => (k_here; (with_reducible show wpAny _ _ (binaryOp Operator.Add (Value.bytes _ _) (Value.bytes _ _)) _ _ _); (refine KBy.add_bytes (by (try simp only [List.size_toArray, List.length_cons, List.length_nil]); omega) ?_); intro t' k')
  k_with "InvEndN" => k_dflt kst_close
  k_with "compareOp In bytes ref" => (k_here; k_dflt (refine' in_tup_bytes (by exact News.isTup (by k_asm) (by k_mem)) (by repeat constructor) ?_))
  k_with "getMethod bytes" => (k_here; refine KBd.method ?_)
  k_with "call builtin:bytes.decode" => (k_here; refine call_decode_empty ?_; intro t' k')
  k_with "compareOp In str ref" => (k_here; (with_reducible show wpAny _ _ (compareOp CmpOp.In (Value.str _ _) (Value.ref 43)) _ _ _); k_dflt (refine' in_auto (by k_asm) (by k_asm) (by first | rfl | decide +kernel) ?_; k_whole))
  k_with "compareOp Is bytes bool" => (k_here; with_reducible refine is_bb ?_)
  k_with "compareOp Is none bool" => (k_here; with_reducible refine is_nb ?_)
  k_with "ite" => first | with_reducible refine ite_tt ?_ | with_reducible refine ite_ff ?_ | with_reducible refine ite_True_then ?_ | with_reducible refine ite_False_else ?_
  k_with "eval Dict" => (k_here; (with_reducible show wpAny _ _ (eval (Expr.Dict (some (Expr.Constant (Const.bytes _) _ _) :: _) _ _) _) _ _ _); (with_reducible refine' dict_bn (by k_dflt k_asm) (by k_dflt k_asm) (by k_dflt exact TopRead.nolimit (by k_asm)) (by k_dflt rfl) (by k_dflt rfl) (by k_dflt exact List.cons_ne_nil _ _) (by k_dflt decide) ?_); k_dflt k_whole; intro d' h' o' F' N' l1 lo' hs'; (try k_lt l1); (try k_sweep))
  k_with "KdnMade" => k_dflt (refine' made_bn (by k_asm) (by k_asm) (by k_updF) (by assumption) (by first | exact carr_cons (carr_cons carr_nil) | exact carr_cons (carr_cons (carr_cons carr_nil))) (by rfl) ?_; k_whole; intro h' o' F' N' hs'; (try k_sweep))
  k_with "getMethod ref" => (k_here; (with_reducible show wpAny _ _ (getMethod (Value.ref _) "get" _) _ _ _); k_dflt (refine' kdg_method (knd := bnKind _ _) (by k_asm) (by k_mem) (by assumption) ?_))
  k_with "call builtin:dict.get" => (k_here; k_dflt (first | (refine' get2_bn (by k_asm) (by k_mem) (by assumption) (by assumption) (Value.str _ _) (by rfl) ?_) | (refine' get2_n (by k_asm) (by k_mem) (by assumption) (by assumption) (Value.str _ _) (by rfl) ?_)))
  k_with "truthy str" => (k_here; (with_reducible show wpAny _ _ (truthy (Value.str (AV.kind _) _)) _ _ _); refine truthy_kind ?_; intro tk')
  k_with "call builtin:dict.get" => (k_here; (with_reducible show wpAny _ _ (call _ [Value.ref _, Value.bytes _ _]) _ _ _); k_dflt (refine' get1_bnv (by k_asm) (by k_mem) (by assumption) (by assumption) (by assumption) ?_))
  k_with "call builtin:dict.get" => (k_here; (with_reducible show wpAny _ _ (call _ [Value.ref _, EV.val _ _, Value.str _ _]) _ _ _); k_dflt (refine' get2_ev (by k_asm) (by k_mem) (by assumption) (by assumption) ?_); intro t')
  k_with "binaryOp Add str str" => (k_here; (with_reducible show wpAny _ _ (binaryOp _ _ (Value.str (EV.end _) _)) _ _ _); k_dflt (refine' add_small (by decide +kernel) (end_len _) ?_); intro t' k')
  k_with "binaryOp Add str str" => (k_here; (with_reducible show wpAny _ _ (binaryOp _ _ (Value.str (wishS _ _) _)) _ _ _); k_dflt (refine' add_small (by decide +kernel) (wishS_len (by assumption) (by decide +kernel)) ?_); intro t' k')
  k_with "subscriptTail" => (k_here; (with_reducible show wpAny _ _ (subscriptTail _ _ (Value.ref _) (Value.bytes _ _)) _ _ _); k_dflt (refine' item_wish (by assumption) (by k_asm) (by k_mem) (by assumption) ?_ (by intro _; with_unfolding_all rfl) (by intro _; with_unfolding_all rfl)); intro t')
  k_with "exec Assign" => (k_here; (with_reducible show wpAny _ _ (exec (Stmt.Assign _ (Expr.BoolOp _ _ _) _) _) _ _ _); (fail_if_success (with_reducible show wpAny _ _ _ (CutK _ _ _ _ _ _ _) _ _)); k_dflt (refine' cutKind (by assumption) (by k_asm) (by k_asm) ?_ ?_))
  k_with "CutK" => (k_dflt first | (refine' cutK_1 (by assumption) (by k_asm) (by k_asm)) | (refine' cutK_2 (by assumption) (by k_asm) (by k_asm)))
  k_with "forall" => ((with_reducible show ∀ (v : AV) (_ : Tok) (_ : Heap) (_ : Nat), (baseA _ _).norm = v → _); intro v' t' h' tk' hv' F' N'; cases v' <;> first | exact (norm_ne_x hv').elim | (dsimp only [AV.kind] at F'; try k_sweep))
  k_with "call ref" => (k_here; (with_reducible show wpAny _ _ (call (Value.ref 201) [AV.val _ _]) _ _ _); k_dflt (refine' c_kind _ _ _ _ _ _ _ _ _ _ _ _ _ _ _ _ _ _ _ (by k_asm) (by k_asm) (by k_asm) (by k_asm) (by k_asm) (by first | exact rfl | assumption) (by ktr_room) (by ktr_units) _ _ ?_; ); intro t' h' tk' F' N'; (try k_sweep))
  trivial
set_option maxRecDepth 100000 in
set_option maxHeartbeats 8000000 in
theorem c_act (w : World) {p : Program} {loose : List Str} {mean : ExcName → Option Value} {mg mb : Str → Option Value}
  (dp un : Nat) (gd : Option (List Code)) (cn : Str) (cs : Scope) (a : Addr) (ccd : Value) (cl : List (Str × Addr)) (outer : List Env) (A₀ : Around) (base h₀ : Heap) (L : Addr) (m : Str → Option Value) (news : List (Addr × Obj)) (s : Shared) (Q E : Value → Shared → Prop)
  (B : Below A₀ base outer h₀) (F : Fr h₀ L s.heap m) (X : (hd.heap_1 w.params).In h₀) (N : News h₀ L s.heap news) (T : Top p loose mean mg mb h₀) (hk : cs.kind = .function) (hdp : dp + 6 < recursionLimit) (hun : un + 60 < cLine)
  (td : Addr) (o : Obj) (kvs : List (Option (List UInt8) × Value)) (a1 a2 : AV) (e : EV) (nv : Str) (wb : Array UInt8) (t1 t2 t3 tn tw : Tok) (hW : Wish wb) (hd : o.IsDictOf (bnKind PySem.Challenge.rw_jh0007_01.row.prog w) kvs) (hm : (td, o) ∈ news) (lo : (td == sysModules) = false)
  (hA : (valueAt kvs (some (#[116, 101, 120, 116] : Array UInt8).toList)).getD .none = a1.val t1) (hB : (valueAt kvs (some (#[99, 114, 108, 102] : Array UInt8).toList)).getD .none = a2.val t2) (hE : (valueAt kvs (some (#[101, 111, 108] : Array UInt8).toList)).getD .none = e.val t3)
  (hret : ∀ (t : Tok) (h' : Heap) (tk' : Nat), Fr h₀ L h' m → News h₀ L h' news → Q (.str (actF (baseA a1 a2) e nv wb).str t) { s with heap := h', toks := tk' }) :
  wpAny (model PySem.Challenge.rw_jh0007_01.row.prog w) (ktrTop dp un gd cn cs L a ccd cl outer) (call (.ref 208) [.ref td, .str nv tn, .bytes wb tw]) Q E s := by
  revert X; k_fill; intro X
  have hMk : KstMark := kstMark
  have hRm : KindMark a1 a2 := trivial
  have N2 : News h₀ L s.heap ((td, o) :: news) := fun p hp => by
    rcases List.mem_cons.mp hp with rfl | hp
    · exact N _ hm
    · exact N _ hp
  clear N hm
  refine wpAny_call ?_
  k_dflt cell_enter
  k_steps
  all_goals
    (rename News h₀ L _ _ => kN
     rename AV.norm _ = _ => hv
     refine cb_retS hret ?_ (by k_asm) (fun p hp => kN p (by simp only [List.mem_cons, hp, or_true]))
     rw [← actF_norm, hv]
     first
     | exact n_bin hW (by assumption) (by assumption)
     | exact n_crlf hW (by assumption) (by assumption)
     | exact n_input hW (by assumption) (by assumption) (by assumption)
     | exact e_text (by assumption) (.inl rfl)
     | exact e_text (by assumption) (.inr (.inl rfl))
     | exact e_text (by assumption) (.inr (.inr rfl))
     | exact e_auto (by assumption)
     | exact i_input (by assumption)
     | exact t_wish (by assumption) (w_crlf hW (by assumption))
     | exact t_wish (by assumption) (w_input hW (by assumption))
     | exact a_wish (by assumption) (w_crlf hW (by assumption))
     | exact a_wish (by assumption) (w_input hW (by assumption))
     | rfl)
end
section
local macro_rules | `(tactic| k_room) => `(tactic| ktr_room)
local macro_rules | `(tactic| k_units) => `(tactic| ktr_units)
def WT : List UInt8 := (#[116, 114, 117, 101] : Array UInt8).toList
def smuW (wb : Array UInt8) : Value := bif wb.toList == (#[116, 114, 117, 101] : Array UInt8).toList then .bool true else .none
def cleW (wb : Array UInt8) : Value := bif wb.toList == (#[116, 114, 117, 101] : Array UInt8).toList then .bool true else bif wb.toList == (#[105, 110, 112, 117, 116] : Array UInt8).toList then .bool true else .none
theorem smu_t {wb : Array UInt8} (h : (wb.toList == (#[116, 114, 117, 101] : Array UInt8).toList) = true) : smuW wb = .bool true := by rw [smuW, h]; rfl
theorem smu_f {wb : Array UInt8} (h : (wb.toList == (#[116, 114, 117, 101] : Array UInt8).toList) = false) : smuW wb = .none := by rw [smuW, h]; rfl
theorem cle_t {wb : Array UInt8} (h : (wb.toList == (#[116, 114, 117, 101] : Array UInt8).toList) = true) : cleW wb = .bool true := by rw [cleW, h]; rfl
theorem cle_i {wb : Array UInt8} (h : (wb.toList == (#[116, 114, 117, 101] : Array UInt8).toList) = false) (h2 : (wb.toList == (#[105, 110, 112, 117, 116] : Array UInt8).toList) = true) : cleW wb = .bool true := by rw [cleW, h, h2]; rfl
theorem cle_n {wb : Array UInt8} (h : (wb.toList == (#[116, 114, 117, 101] : Array UInt8).toList) = false) (h2 : (wb.toList == (#[105, 110, 112, 117, 116] : Array UInt8).toList) = false) : cleW wb = .none := by rw [cleW, h, h2]; rfl
theorem cle_yes {wb : Array UInt8} (hW : Wish wb) (h : (wb.toList == (#[102, 97, 108, 115, 101] : Array UInt8).toList) = false) : cleW wb = .bool true := by
  cases hW
  · exact absurd h (by decide +kernel)
  · rfl
  · rfl
theorem cle_no {wb : Array UInt8} (hW : Wish wb) (h : (wb.toList == (#[102, 97, 108, 115, 101] : Array UInt8).toList) = true) : cleW wb = .none := by
  cases hW
  · rfl
  · exact absurd h (by decide +kernel)
  · exact absurd h (by decide +kernel)
theorem val_end {h₀ h' : Heap} {L : Addr} {m : Str → Option Value} {news : List (Addr × Obj)} {s : Shared} {Q : Value → Shared → Prop} {x y : Value} {tk' : Nat} (hret : ∀ (h' : Heap) (tk' : Nat), Fr h₀ L h' m → News h₀ L h' news → Q x { s with heap := h', toks := tk' }) (e : x = y) (F : Fr h₀ L h' m) (N : News h₀ L h' news) : Q y { s with heap := h', toks := tk' } := by
  subst e
  exact hret h' tk' F N
theorem words12 : True := by
  k_with_none
  k_with "callWith ref" => (k_here; k_dflt (refine' callWith_K (by k_asm) (by k_is) ?_; k_whole))
  k_with "compareOp In bytes bytes" => (k_here; k_dflt (refine' in_J (by k_asm) (by k_asm) (by rfl) (by decide) ?_; k_whole); intro h' tk' F' N'; (try k_sweep))
  k_with "compareOp NotIn bytes bytes" => (k_here; k_dflt (refine' notin_J (by k_asm) (by k_asm) (by rfl) (by decide) ?_; k_whole); intro h' tk' F' N'; (try k_sweep))
  k_with "compareOp Eq none bytes" => (k_here; refine eq_none_bytes ?_)
  k_with "compareOp Eq bytes str" => (k_here; refine eq_bytes_str ?_)
  k_with "subscriptTail" => (k_here; (with_reducible show wpAny _ _ (subscriptTail _ (Expr.Slice _ _ none _) (Value.bytes _ _) (Value.ref _)) _ _ _); (with_reducible rename Fr _ _ _ _ => F'); (with_reducible rename News _ _ _ _ => N'); (refine slice_J (s := ⟨_, _, _, _, _⟩) F' N' (by constructor) (by constructor) (by first | omega | ((try simp only [List.size_toArray, List.length_cons, List.length_nil]); omega)) ?_); intro h' t' k' F' N' hz'; (try k_sweep))
  k_with "subscriptTail" => (k_here; (with_reducible show wpAny _ _ (subscriptTail _ _ (Value.bytes _ _) (Value.int _ _)) _ _ _); (refine item_J (by omega) (by omega) (by omega) ?_); intro t' k')
  k_with "getMethod bytes" => (k_here; first | refine method_replace ?_ | refine method_split ?_ | refine method_join ?_ | refine method_endswith ?_)
  k_with "call builtin:bytes.endswith" => (k_here; refine call_endswith ?_)
  k_with "call builtin:bytes.replace" => (k_here; refine replace_J (by omega) ?_; intro t' k')
  k_with "call builtin:bytes.split" => (k_here; k_dflt (refine' split_J (by omega) (by k_asm) (by k_asm) ?_; k_whole); intro l' vs' ps' h' k' hv' hps' hln' hsz' F' N' l1; (try k_sweep))
  k_with "binaryOp Add bytes bytes" => (k_here; (with_reducible show wpAny _ _ (binaryOp Operator.Add (Value.bytes _ _) (Value.bytes _ _)) _ _ _); (refine KBy.add_bytes (by (try simp only [List.size_toArray, List.length_cons, List.length_nil]); omega) ?_); intro t' k')
  k_with "InvEndN" => k_dflt kst_close
  k_with "compareOp In bytes ref" => (k_here; k_dflt (refine' in_tup_bytes (by exact News.isTup (by k_asm) (by k_mem)) (by repeat constructor) ?_))
  k_with "getMethod bytes" => (k_here; refine KBd.method ?_)
  k_with "call builtin:bytes.decode" => (k_here; refine call_decode_empty ?_; intro t' k')
  k_with "compareOp In str ref" => (k_here; (with_reducible show wpAny _ _ (compareOp CmpOp.In (Value.str _ _) (Value.ref 43)) _ _ _); k_dflt (refine' in_auto (by k_asm) (by k_asm) (by first | rfl | decide +kernel) ?_; k_whole))
  k_with "compareOp Is bytes bool" => (k_here; with_reducible refine is_bb ?_)
  k_with "compareOp Is none bool" => (k_here; with_reducible refine is_nb ?_)
  k_with "ite" => first | with_reducible refine ite_tt ?_ | with_reducible refine ite_ff ?_ | with_reducible refine ite_True_then ?_ | with_reducible refine ite_False_else ?_
  k_with "eval Dict" => (k_here; (with_reducible show wpAny _ _ (eval (Expr.Dict (some (Expr.Constant (Const.bytes _) _ _) :: _) _ _) _) _ _ _); (with_reducible refine' dict_bn (by k_dflt k_asm) (by k_dflt k_asm) (by k_dflt exact TopRead.nolimit (by k_asm)) (by k_dflt rfl) (by k_dflt rfl) (by k_dflt exact List.cons_ne_nil _ _) (by k_dflt decide) ?_); k_dflt k_whole; intro d' h' o' F' N' l1 lo' hs'; (try k_lt l1); (try k_sweep))
  k_with "KdnMade" => k_dflt (refine' made_bn (by k_asm) (by k_asm) (by k_updF) (by assumption) (by first | exact carr_cons (carr_cons carr_nil) | exact carr_cons (carr_cons (carr_cons carr_nil))) (by rfl) ?_; k_whole; intro h' o' F' N' hs'; (try k_sweep))
  k_with "getMethod ref" => (k_here; (with_reducible show wpAny _ _ (getMethod (Value.ref _) "get" _) _ _ _); k_dflt (refine' kdg_method (knd := bnKind _ _) (by k_asm) (by k_mem) (by assumption) ?_))
  k_with "call builtin:dict.get" => (k_here; k_dflt (first | (refine' get2_bn (by k_asm) (by k_mem) (by assumption) (by assumption) (Value.str _ _) (by rfl) ?_) | (refine' get2_n (by k_asm) (by k_mem) (by assumption) (by assumption) (Value.str _ _) (by rfl) ?_)))
  trivial
set_option maxRecDepth 100000 in
set_option maxHeartbeats 8000000 in
theorem c_gs (w : World) {p : Program} {loose : List Str} {mean : ExcName → Option Value} {mg mb : Str → Option Value}
  (dp un : Nat) (gd : Option (List Code)) (cn : Str) (cs : Scope) (a : Addr) (ccd : Value) (cl : List (Str × Addr)) (outer : List Env) (A₀ : Around) (base h₀ : Heap) (L : Addr) (m : Str → Option Value) (news : List (Addr × Obj)) (s : Shared) (Q E : Value → Shared → Prop)
  (B : Below A₀ base outer h₀) (F : Fr h₀ L s.heap m) (X : (hd.heap_1 w.params).In h₀) (N : News h₀ L s.heap news) (T : Top p loose mean mg mb h₀) (hk : cs.kind = .function) (hdp : dp + 3 < recursionLimit) (hun : un + 30 < cLine)
  (nv : Value) (wb : Array UInt8) (tw : Tok) (hret : ∀ (h' : Heap) (tk' : Nat), Fr h₀ L h' m → News h₀ L h' news → Q (smuW wb) { s with heap := h', toks := tk' }) :
  wpAny (model PySem.Challenge.rw_jh0007_01.row.prog w) (ktrTop dp un gd cn cs L a ccd cl outer) (call (.ref 147) [nv, .bytes wb tw]) Q E s := by
  revert X; k_fill; intro X
  refine wpAny_call ?_
  k_dflt cell_enter
  k_steps
  all_goals (refine val_end hret ?_ (by k_asm) (by k_asm); first | exact smu_t (by assumption) | exact smu_f (by assumption))
set_option maxRecDepth 100000 in
set_option maxHeartbeats 8000000 in
theorem c_gc (w : World) {p : Program} {loose : List Str} {mean : ExcName → Option Value} {mg mb : Str → Option Value}
  (dp un : Nat) (gd : Option (List Code)) (cn : Str) (cs : Scope) (a : Addr) (ccd : Value) (cl : List (Str × Addr)) (outer : List Env) (A₀ : Around) (base h₀ : Heap) (L : Addr) (m : Str → Option Value) (news : List (Addr × Obj)) (s : Shared) (Q E : Value → Shared → Prop)
  (B : Below A₀ base outer h₀) (F : Fr h₀ L s.heap m) (X : (hd.heap_1 w.params).In h₀) (N : News h₀ L s.heap news) (T : Top p loose mean mg mb h₀) (hk : cs.kind = .function) (hdp : dp + 3 < recursionLimit) (hun : un + 30 < cLine)
  (nv : Value) (wb : Array UInt8) (tw : Tok) (hret : ∀ (h' : Heap) (tk' : Nat), Fr h₀ L h' m → News h₀ L h' news → Q (cleW wb) { s with heap := h', toks := tk' }) :
  wpAny (model PySem.Challenge.rw_jh0007_01.row.prog w) (ktrTop dp un gd cn cs L a ccd cl outer) (call (.ref 154) [nv, .bytes wb tw]) Q E s := by
  revert X; k_fill; intro X
  refine wpAny_call ?_
  k_dflt cell_enter
  k_steps
  all_goals (refine val_end hret ?_ (by k_asm) (by k_asm); first | exact cle_t (by assumption) | exact cle_i (by assumption) (by assumption) | exact cle_n (by assumption) (by assumption))
end
section
section
variable {prog : Program} {w : World} {A : Around} {E : Value → Shared → Prop} {s : Shared} {Q : Value → Shared → Prop} {value slice : PySem.Expr} {l : Addr} {r : Int} {u t1 t2 t3 t4 t5 t6 t7 : Tok}
theorem pick_av (hl : s.heap.IsList l [Value.none, .bool true, .bool false, .bytes #[105, 110, 112, 117, 116] t1, .bytes #[97, 117, 116, 111] t2, .bytes #[120] t3].toArray) (h0 : 0 ≤ r) (h1 : r < 6) (h : ∀ a t, Q (AV.val a t) s)
    (hs : ∀ k : Int, subscripted slice false (.ref l) (.int k u) = operate [.ref l, .int k u] (getItem (.ref l) (.int k u))) : wpAny (model prog w) A (subscriptTail value slice (.ref l) (.int r u)) Q E s := by
  have hr : r = 0 ∨ r = 1 ∨ r = 2 ∨ r = 3 ∨ r = 4 ∨ r = 5 := by omega
  rcases hr with rfl | rfl | rfl | rfl | rfl | rfl
  · exact item_litK hl (by decide) (by decide) rfl (h .no 0) (hs _)
  · exact item_litK hl (by decide) (by decide) rfl (h .tt 0) (hs _)
  · exact item_litK hl (by decide) (by decide) rfl (h .ff 0) (hs _)
  · exact item_litK hl (by decide) (by decide) rfl (h .inp t1) (hs _)
  · exact item_litK hl (by decide) (by decide) rfl (h .aut t2) (hs _)
  · exact item_litK hl (by decide) (by decide) rfl (h .x t3) (hs _)
theorem pick_ev (hl : s.heap.IsList l [Value.none, .bytes #[108, 102] t1, .bytes #[99, 114, 108, 102] t2, .bytes #[120] t3].toArray) (h0 : 0 ≤ r) (h1 : r < 4) (h : ∀ e t, Q (EV.val e t) s)
    (hs : ∀ k : Int, subscripted slice false (.ref l) (.int k u) = operate [.ref l, .int k u] (getItem (.ref l) (.int k u))) : wpAny (model prog w) A (subscriptTail value slice (.ref l) (.int r u)) Q E s := by
  have hr : r = 0 ∨ r = 1 ∨ r = 2 ∨ r = 3 := by omega
  rcases hr with rfl | rfl | rfl | rfl
  · exact item_litK hl (by decide) (by decide) rfl (h .no 0) (hs _)
  · exact item_litK hl (by decide) (by decide) rfl (h .lf t1) (hs _)
  · exact item_litK hl (by decide) (by decide) rfl (h .crlf t2) (hs _)
  · exact item_litK hl (by decide) (by decide) rfl (h .x t3) (hs _)
theorem pick_str {x y z : Str} (hl : s.heap.IsList l [Value.str x t1, .str y t2, .str z t3].toArray) (h0 : 0 ≤ r) (h1 : r < 3) (h : ∀ nv t, Q (.str nv t) s)
    (hs : ∀ k : Int, subscripted slice false (.ref l) (.int k u) = operate [.ref l, .int k u] (getItem (.ref l) (.int k u))) : wpAny (model prog w) A (subscriptTail value slice (.ref l) (.int r u)) Q E s := by
  have hr : r = 0 ∨ r = 1 ∨ r = 2 := by omega
  rcases hr with rfl | rfl | rfl
  · exact item_litK hl (by decide) (by decide) rfl (h _ _) (hs _)
  · exact item_litK hl (by decide) (by decide) rfl (h _ _) (hs _)
  · exact item_litK hl (by decide) (by decide) rfl (h _ _) (hs _)
theorem pick_wish (hl : s.heap.IsList l [Value.bytes #[102, 97, 108, 115, 101] t1, .bytes #[116, 114, 117, 101] t2, .bytes #[105, 110, 112, 117, 116] t3].toArray) (h0 : 0 ≤ r) (h1 : r < 3) (h : ∀ wb t, Wish wb → Q (.bytes wb t) s)
    (hs : ∀ k : Int, subscripted slice false (.ref l) (.int k u) = operate [.ref l, .int k u] (getItem (.ref l) (.int k u))) : wpAny (model prog w) A (subscriptTail value slice (.ref l) (.int r u)) Q E s := by
  have hr : r = 0 ∨ r = 1 ∨ r = 2 := by omega
  rcases hr with rfl | rfl | rfl
  · exact item_litK hl (by decide) (by decide) rfl (h _ _ .no) (hs _)
  · exact item_litK hl (by decide) (by decide) rfl (h _ _ .yes) (hs _)
  · exact item_litK hl (by decide) (by decide) rfl (h _ _ .inp) (hs _)
theorem pick_safe (hl : s.heap.IsList l [Value.bytes #[102, 97, 108, 115, 101] t1, .bytes #[116, 114, 117, 101] t2, .bytes #[119, 97, 114, 110] t3].toArray) (h0 : 0 ≤ r) (h1 : r < 3) (h : ∀ sf t, Safe sf → Q (.bytes sf t) s)
    (hs : ∀ k : Int, subscripted slice false (.ref l) (.int k u) = operate [.ref l, .int k u] (getItem (.ref l) (.int k u))) : wpAny (model prog w) A (subscriptTail value slice (.ref l) (.int r u)) Q E s := by
  have hr : r = 0 ∨ r = 1 ∨ r = 2 := by omega
  rcases hr with rfl | rfl | rfl
  · exact item_litK hl (by decide) (by decide) rfl (h _ _ .no) (hs _)
  · exact item_litK hl (by decide) (by decide) rfl (h _ _ .yes) (hs _)
  · exact item_litK hl (by decide) (by decide) rfl (h _ _ .warn) (hs _)
theorem pick_idx (hl : s.heap.IsList l [Value.none, .bool true, .bool false].toArray) (h0 : 0 ≤ r) (h1 : r < 3) (h : ∀ iv, Q (idxV iv) s)
    (hs : ∀ k : Int, subscripted slice false (.ref l) (.int k u) = operate [.ref l, .int k u] (getItem (.ref l) (.int k u))) : wpAny (model prog w) A (subscriptTail value slice (.ref l) (.int r u)) Q E s := by
  have hr : r = 0 ∨ r = 1 ∨ r = 2 := by omega
  rcases hr with rfl | rfl | rfl
  · exact item_litK hl (by decide) (by decide) rfl (h none) (hs _)
  · exact item_litK hl (by decide) (by decide) rfl (h (some true)) (hs _)
  · exact item_litK hl (by decide) (by decide) rfl (h (some false)) (hs _)
theorem pick_piece {a b c d e f g : Array UInt8} (hl : s.heap.IsList l [Value.bytes a t1, .bytes b t2, .bytes c t3, .bytes d t4, .bytes e t5, .bytes f t6, .bytes g t7].toArray) (ha : a.size ≤ 2) (hb : b.size ≤ 2) (hc : c.size ≤ 2) (hd : d.size ≤ 2) (he : e.size ≤ 2) (hf : f.size ≤ 2) (hg' : g.size ≤ 2) (h0 : 0 ≤ r) (h1 : r < 7) (h : ∀ b t, b.size ≤ 2 → Q (.bytes b t) s)
    (hs : ∀ k : Int, subscripted slice false (.ref l) (.int k u) = operate [.ref l, .int k u] (getItem (.ref l) (.int k u))) : wpAny (model prog w) A (subscriptTail value slice (.ref l) (.int r u)) Q E s := by
  have hr : r = 0 ∨ r = 1 ∨ r = 2 ∨ r = 3 ∨ r = 4 ∨ r = 5 ∨ r = 6 := by omega
  rcases hr with rfl | rfl | rfl | rfl | rfl | rfl | rfl
  · exact item_litK hl (by decide) (by decide) rfl (h _ _ ha) (hs _)
  · exact item_litK hl (by decide) (by decide) rfl (h _ _ hb) (hs _)
  · exact item_litK hl (by decide) (by decide) rfl (h _ _ hc) (hs _)
  · exact item_litK hl (by decide) (by decide) rfl (h _ _ hd) (hs _)
  · exact item_litK hl (by decide) (by decide) rfl (h _ _ he) (hs _)
  · exact item_litK hl (by decide) (by decide) rfl (h _ _ hf) (hs _)
  · exact item_litK hl (by decide) (by decide) rfl (h _ _ hg') (hs _)
end
end
section
def AV.opt : AV → Tok → Option Value
  | .no, _ => none
  | a, t => some (a.val t)
def EV.opt : EV → Tok → Option Value
  | .no, _ => none
  | e, t => some (e.val t)
theorem AV.opt_getD (a : AV) (t : Tok) : (a.opt t).getD .none = a.val t := by cases a <;> rfl
theorem EV.opt_getD (e : EV) (t : Tok) : (e.opt t).getD .none = e.val t := by cases e <;> rfl
def addO (kvs : List (Option (List UInt8) × Value)) (k : Option (List UInt8)) : Option Value → List (Option (List UInt8) × Value)
  | none => kvs
  | some v => stored kvs k v
abbrev kText : Option (List UInt8) := some (#[116, 101, 120, 116] : Array UInt8).toList
abbrev kCrlf : Option (List UInt8) := some (#[99, 114, 108, 102] : Array UInt8).toList
abbrev kEol : Option (List UInt8) := some (#[101, 111, 108] : Array UInt8).toList
theorem told_text (o1 o2 o3 : Option Value) : (valueAt (addO (addO (addO [] kText o1) kCrlf o2) kEol o3) kText).getD .none = o1.getD .none := by
  cases o1 <;> cases o2 <;> cases o3 <;> rfl
theorem told_crlf (o1 o2 o3 : Option Value) : (valueAt (addO (addO (addO [] kText o1) kCrlf o2) kEol o3) kCrlf).getD .none = o2.getD .none := by
  cases o1 <;> cases o2 <;> cases o3 <;> rfl
theorem told_eol (o1 o2 o3 : Option Value) : (valueAt (addO (addO (addO [] kText o1) kCrlf o2) kEol o3) kEol).getD .none = o3.getD .none := by
  cases o1 <;> cases o2 <;> cases o3 <;> rfl
section
variable {prog : Program} {w : World} {A : Around} {E : Value → Shared → Prop} {s : Shared} {env : Env} {h₀ : Heap} {L : Addr} {m : Str → Option Value} {news : List (Addr × Obj)}
theorem newDict_bn {pos : Pos} {Q : Value → Shared → Prop} (F : Fr h₀ L s.heap m) (N : News h₀ L s.heap news) (hbig : h₀.NoLimit)
    (k : ∀ d h' o, Fr h₀ L h' m → News h₀ L h' ((d, o) :: news) → (∀ p ∈ news, p.1 < d) → (d == sysModules) = false → o.IsDictOf (bnKind prog w) [] → Q (.ref d) { s with heap := h' }) : wpAny (model prog w) A (eval (.Dict [] [] pos) env) Q E s := by
  refine wpAny_Dict_empty (k _ _ _ (F.push _) (News.push F N _) (fun p hp => Heap.lt_size (N p hp).1) (F.notModules (modules_low hbig)) ?_)
  obtain ⟨o, ho, hd⟩ := Heap.dictOf_iff.mp (Heap.DictOf.new (knd := bnKind prog w) s.heap)
  rw [Heap.get?_push_size _ rfl] at ho
  exact (Option.some.inj ho) ▸ hd
theorem isNot_av {a : AV} {t : Tok} {Q : Value → Shared → Prop} (h : Q (.bool (a.opt t).isSome) s) : wpAny (model prog w) A (compareOp .IsNot (a.val t) .none) Q E s := by
  cases a
  · exact wpAny_isNot_self (by rfl) h
  all_goals exact wpAny_isNot_other (by rfl) (by intro x; cases x) h
theorem isNot_ev {a : EV} {t : Tok} {Q : Value → Shared → Prop} (h : Q (.bool (a.opt t).isSome) s) : wpAny (model prog w) A (compareOp .IsNot (a.val t) .none) Q E s := by
  cases a
  · exact wpAny_isNot_self (by rfl) h
  all_goals exact wpAny_isNot_other (by rfl) (by intro x; cases x) h
end
def CutT (prog : Program) (w : World) (h₀ : Heap) (L : Addr) (m : Str → Option Value) (g : Obj → List (Addr × Obj)) (kvs : List (Option (List UInt8) × Value)) (k : Option (List UInt8)) (ov : Option Value) (s : Shared) (fl : Flow) (s' : Shared) : Prop :=
  fl = .next ∧ ∃ (h : Heap) (tk : Nat) (o' : Obj), s' = { s with heap := h, toks := tk } ∧ Fr h₀ L h m ∧ News h₀ L h (g o') ∧ o'.IsDictOf (bnKind prog w) (addO kvs k ov)
theorem cutTold {prog : Program} {w : World} {A : Around} {E : Value → Shared → Prop} {s : Shared} {h₀ : Heap} {L : Addr} {m : Str → Option Value} {g : Obj → List (Addr × Obj)} {kvs : List (Option (List UInt8) × Value)} {k : Option (List UInt8)} {ov : Option Value} {st : Stmt} {env : Env} {Q : Flow → Shared → Prop}
    (h1 : wpAny (model prog w) A (exec st env) (CutT prog w h₀ L m g kvs k ov s) E s)
    (h2 : ∀ (h : Heap) (tk : Nat) (o' : Obj), Fr h₀ L h m → News h₀ L h (g o') → o'.IsDictOf (bnKind prog w) (addO kvs k ov) → Q .next { s with heap := h, toks := tk }) : wpAny (model prog w) A (exec st env) Q E s := by
  refine wpAny_mono h1 (fun fl s' h => ?_) fun _ _ e => e
  obtain ⟨rfl, h, tk, o', rfl, F', N', hd⟩ := h
  exact h2 h tk o' F' N' hd
def CutN (h₀ : Heap) (L : Addr) (m : Str → Option Value) (news : List (Addr × Obj)) (s : Shared) (fl : Flow) (s' : Shared) : Prop :=
  fl = .next ∧ ∃ (h : Heap) (tk : Nat), s' = { s with heap := h, toks := tk } ∧ Fr h₀ L h m ∧ News h₀ L h news
theorem cutNext {M : Model} {A : Around} {E : Value → Shared → Prop} {s : Shared} {h₀ : Heap} {L : Addr} {m : Str → Option Value} {news : List (Addr × Obj)} {st : Stmt} {env : Env} {Q : Flow → Shared → Prop}
    (hF : Fr h₀ L s.heap m) (hN : News h₀ L s.heap news)
    (h1 : wpAny M A (exec st env) (CutN h₀ L m news s) E s)
    (h2 : ∀ (h : Heap) (tk : Nat), Fr h₀ L h m → News h₀ L h news → Q .next { s with heap := h, toks := tk }) : wpAny M A (exec st env) Q E s := by
  refine wpAny_mono h1 (fun fl s' h => ?_) fun _ _ e => e
  obtain ⟨rfl, h, tk, rfl, F', N'⟩ := h
  exact h2 h tk F' N'
end
section
section
variable {M : Model} {A : Around} {E : Value → Shared → Prop} {s' : Shared} {base g g₂ : Heap} {outer : List Env} {L e : Addr} {m : Str → Option Value} {env : Env} {Q : Unit → Shared → Prop} {news : List (Addr × Obj)}
theorem fm_mem {b : Addr} (hf : env.frame = some L) (hm : b ∈ (env :: outer).filterMap (·.frame)) : b = L ∨ b ∈ outer.filterMap (·.frame) := by
  obtain ⟨x, hx, hb⟩ := List.mem_filterMap.mp hm
  rcases List.mem_cons.mp hx with rfl | hx
  · exact .inl (Option.some.inj (hf.symm.trans hb)).symm
  · exact .inr (List.mem_filterMap.mpr ⟨x, hx, hb⟩)
theorem leaveX {cls : Value} (hf : env.frame = some L) (K : Below A base outer g) (F : Fr g L g₂ m) (R : RaisedSN base g₂ (env :: outer) e cls news s'.heap) (hsm : g₂.UpToSlots s'.heap)
    (hQ : ∀ h', RaisedSN base g outer e cls news h' → g.UpToSlots h' → Q () { s' with heap := h' }) :
    wpAny M (A.deeper env) (leaving env (.ref e)) Q E s' := by
  obtain ⟨B, a0, hB, hBG, hl, hfl⟩ := R
  refine wpAny_leaves_onW (Around.frames_deeper K.stack) hf hfl fun h' x1 x2 => hQ h' ⟨B, a0, hB, fun b o q nm => ?_, fun q hq => ⟨(hl q hq).1, kts_none F.keep (hl q hq).2.1, (hl q hq).2.2⟩, x1⟩ ((Heap.UpToSlots.of_keeps F.keep).trans (hsm.trans x2))
  refine hBG b o (F.keep b o q) fun hm => ?_
  rcases fm_mem hf hm with z | z
  · rw [z, kts_self F] at q; cases q
  · exact nm z
end
section
variable {prog : Program} {w : World} {A₀ A : Around} {s : Shared} {base h₀ : Heap} {L : Addr} {m : Str → Option Value} {env : Env} {news : List (Addr × Obj)} {K : Frag} {p : Program} {loose : List Str} {mean : ExcName → Option Value} {mg mb : Str → Option Value}
    {R : Result → Shared → Prop} {name qual : Str} {params : Arguments} {body : List Stmt} {scope : Scope} {dV kV doc pm cdv ct oc : Value} {an od : Option Addr} {osl : Array (Option Value)} {f : Addr} {args : Args} {binds : List (Str × Value)}
theorem code_tryX (B : Below A₀ base [] h₀) (F : Fr h₀ L s.heap m) (X₀ : K.In h₀) (N : News h₀ L s.heap news) (T : Top p loose mean mg mb h₀) (hA : A.frames = some [env]) (hf : env.frame = some L) (hke : env.scope.kind = .function)
    (ho : K.lookup f = some ⟨oc, od, .func (fnOf name qual params body scope dV kV doc pm an cdv ct), osl⟩) (hcd : codeIn K cdv qual = true) (hroom : A.depth < recursionLimit)
    (hbind : BindsTo s (fnOf name qual params body scope dV kV doc pm an cdv ct) args binds) (hloc : ∀ y ∈ binds, scope.names.lookup y.1 = some .local)
    (h : ∀ g L' h₁, Fr h₀ L g m → Fr g L' h₁ (fun y => binds.reverse.lookup y) → News g L' h₁ news → Below A base [env] g → K.In g → Top p loose mean mg mb g → KtsDicts ([env].filterMap (·.frame)) g →
      wpAny (model prog w) (A.deeper (envOf qual scope L' f cdv)) (execs body (envOf qual scope L' f cdv))
        (fun fl s' => LeaveS0 ([env].filterMap (·.frame)) h₀ L m g R (match fl with | .ret v => v | _ => .none) s')
        (fun e s' => wpAny (model prog w) (A.deeper (envOf qual scope L' f cdv)) (leaving (envOf qual scope L' f cdv) e) (fun _ s'' => R (.error e) s'') (fun e' s'' => R (.error e') s'') s')
        { s with heap := h₁, toks := s.toks + binds.length })
    (hco : scope.isCoroutine = false) (hgen : scope.isGenerator = false) (hk : scope.kind = .function)
    (hcell : ∀ x ∈ scope.names, x.2 ≠ .cell) : codeAny (model prog w) A (.call (.ref f) args) R s := by
  have X := X₀.keeps F.keep
  obtain ⟨FG, BG, st, _⟩ := groundX (R := R) B F N hA hf hke
  obtain ⟨oL, es, ep, hLg, hLd, hLk, hLf⟩ := FG.ns
  have only : ∀ b, b ∈ [env].filterMap (·.frame) → b = L := fun b hb => (fm_mem hf hb).elim id fun z => by simp at z
  have nL : h₀.get? L = none := kts_self F
  refine codeAny_call_def (fd := fnOf name qual params body scope dV kV doc pm an cdv ct) (body := body) (binds := binds) hroom (X _ _ ho) rfl (T.nolimit.keeps F.keep) (codeRec_of X hcd) rfl hbind hcell hloc (fun h₁ hns hk₁ => ?_) hco hgen hk
  refine wpAny_mono (h _ s.heap.objs.size h₁ FG ⟨hns, fun b o e => hk₁ b o (of_hideAll _ e), Nat.le_of_eq (hideAll_size _ _)⟩
    (fun p hp => ⟨hk₁ _ _ (N p hp).1, Nat.ne_of_lt (Heap.lt_size (N p hp).1), hideAll_none _ (List.mem_map_of_mem hp)⟩) BG (X₀.keeps st) (T.keeps st) (fun b hb => by
      rw [only b hb]; exact ⟨oL, es, ep, hLg, hLd⟩)) (fun fl s' hl => ?_) fun _ _ y => y
  obtain ⟨g', L', m', news', T', F', N', k⟩ := hl
  have fromOld : ∀ b o, h₀.get? b = some o → g'.get? b = some o := fun b o e => T'.other b o (st b o e) fun q => by
    rw [only b q, nL] at e; cases e
  obtain ⟨sl, hs⟩ := T'.up hLg
  refine k ⟨⟨_, es, ep, F'.keep _ _ hs, hLd, hLk, hLf⟩, fun b o e => F'.keep b o (fromOld b o e), F.above⟩ fun q hq => ⟨(N' q hq).1, fun z => ?_, ?_⟩
  · have y := (N' q hq).2.2
    rw [z, hs] at y; cases y
  · cases y : h₀.get? q.1 with
    | none => rfl
    | some o =>
      have y' := fromOld _ _ y
      rw [(N' q hq).2.2] at y'; cases y'
end
end
section
abbrev noArgs : Arguments := { posonlyargs := [], args := [], vararg := none, kwonlyargs := [], kw_defaults := [], kwarg := none, defaults := [] }
abbrev lamScope (x y : Str) : Scope := { kind := .function, names := [(x, .free), (y, .free)], isGenerator := false, isCoroutine := false, more := [] }
abbrev lamBody (meth arg : Str) (p1 p2 p3 p4 : Pos) : PySem.Expr := .Call (.Attribute (.Name (PySem.Str.ofString "kept") p1) meth p2) [.Name arg p3] [] p4
def LamAt (w : World) (p : Program) (loose : List Str) (mean : ExcName → Option Value) (mg mb : Str → Option Value) (base : Heap) (news : List (Addr × Obj)) (f : Addr) (o : Option (Array UInt8)) : Prop :=
  ∀ (dp un : Nat) (gd : Option (List Code)) (cn : Str) (cs : Scope) (a : Addr) (ccd : Value) (cl : List (Str × Addr)) (outer : List Env) (A₀ : Around) (h₀ : Heap) (L : Addr) (m : Str → Option Value) (s : Shared) (Q E : Value → Shared → Prop)
    (_ : Below A₀ base outer h₀) (_ : Fr h₀ L s.heap m) (_ : (hd.heap_1 w.params).In h₀) (_ : News h₀ L s.heap news) (_ : Top p loose mean mg mb h₀) (_ : cs.kind = .function) (_ : dp + 8 < recursionLimit) (_ : un + 80 < cLine)
    (_ : ∀ (t : Tok) (c : Array UInt8) (h' : Heap) (tk' : Nat), o = some c → Fr h₀ L h' m → News h₀ L h' news → Q (.bytes c t) { s with heap := h', toks := tk' })
    (_ : ∀ (e : Addr) (h' g₂ : Heap) (tk' : Nat), o = none → Fr h₀ L g₂ m → RaisedSN base g₂ (envX cn cs L a ccd cl :: outer) e (.type "ValueError") news h' → g₂.UpToSlots h' → E (.ref e) { s with heap := h', toks := tk' }),
    wpAny (model PySem.Challenge.rw_jh0007_01.row.prog w) (ktrTop dp un gd cn cs L a ccd cl outer) (call (.ref f) []) Q E s
theorem in_tl6 {p q1 q2 q3 q4 q5 q6 : Addr × Obj} {news : List (Addr × Obj)} (h : p ∈ news) : p ∈ q1 :: q2 :: q3 :: q4 :: q5 :: q6 :: news := by
  simp only [List.mem_cons, h, or_true]
theorem news6 {h₀ h : Heap} {L : Addr} {q1 q2 q3 q4 q5 q6 : Addr × Obj} {news : List (Addr × Obj)} (N : News h₀ L h news) (h1 : q1 ∈ news) (h2 : q2 ∈ news) (h3 : q3 ∈ news) (h4 : q4 ∈ news) (h5 : q5 ∈ news) (h6 : q6 ∈ news) : News h₀ L h (q1 :: q2 :: q3 :: q4 :: q5 :: q6 :: news) := fun p hp => by
  rcases List.mem_cons.mp hp with rfl | hp
  · exact N _ h1
  rcases List.mem_cons.mp hp with rfl | hp
  · exact N _ h2
  rcases List.mem_cons.mp hp with rfl | hp
  · exact N _ h3
  rcases List.mem_cons.mp hp with rfl | hp
  · exact N _ h4
  rcases List.mem_cons.mp hp with rfl | hp
  · exact N _ h5
  rcases List.mem_cons.mp hp with rfl | hp
  · exact N _ h6
  exact N _ hp
local macro_rules | `(tactic| k_room) => `(tactic| ktr_room)
local macro_rules | `(tactic| k_units) => `(tactic| ktr_units)
theorem words13 : True := by
  k_with_none
  k_with "callWith ref" => (k_here; k_dflt (refine' callWith_K (by k_asm) (by k_is) ?_; k_whole))
  k_with "eval Name" => (k_here; k_dflt (refine' nameX_F (by k_asm) (by exact rfl) (by k_mem) (by k_asm) ?_ (by exact rfl) (by exact rfl); k_whole))
  k_with "leaving ref" => (k_here; k_dflt (refine' leaveX (by exact rfl) (by k_asm) (by assumption) (by assumption) (by assumption) ?_; k_whole); intro h' RS' U'; (try dsimp only at RS' U' ⊢))
  k_with "call ref" => (k_here; (with_reducible show wpAny _ _ (call (Value.ref 96) [Value.ref _, Value.bytes _ _]) _ _ _); k_dflt (refine' c_clean _ _ _ _ _ _ _ _ _ _ _ _ _ _ _ _ _ _ _ (by k_asm) (by k_asm) (by k_asm) (by k_asm) (by k_asm) (by first | exact rfl | assumption) (by ktr_room) (by ktr_units) _ _ _ _ _ _ _ _ _ _ _ _ _ _ _ (by omega) (by assumption) (by k_mem) (by k_mem) (fun t' c' h' tk' hq' F' N' => ?_) (fun e' h' g' tk' hq' FG' RS' U' => ?_)) <;> (try k_sweep))
  k_with "call ref" => (k_here; (with_reducible show wpAny _ _ (call (Value.ref 104) [Value.ref _, Value.bytes _ _]) _ _ _); k_dflt (refine' c_smudge _ _ _ _ _ _ _ _ _ _ _ _ _ _ _ _ _ _ _ (by k_asm) (by k_asm) (by k_asm) (by k_asm) (by k_asm) (by first | exact rfl | assumption) (by ktr_room) (by ktr_units) _ _ _ _ _ _ _ _ _ _ _ (by assumption) _ _ _ _ (by omega) (by assumption) (by k_mem) (by k_mem) ?_); intro t' h' tk' F' N'; (try k_sweep))
  trivial
set_option maxRecDepth 100000 in
set_option maxHeartbeats 8000000 in
theorem lam_clean (w : World) {p : Program} {loose : List Str} {mean : ExcName → Option Value} {mg mb : Str → Option Value} {base : Heap} {news : List (Addr × Obj)}
  {f c' ad ak x d : Addr} {oc oD oK : Obj} {vs : Array Value} {qual : Str} {tq : Tok} {pm ctv : Value} {b sf : Array UInt8} {tb tsf k1 k2 k3 k4 k5 k6 : Tok} {sm : Value} {lf : Bool} {iv : Option Bool}
  (h1 : (f, kla_obj "<lambda>" qual noArgs (lamBody (PySem.Str.ofString "clean") (PySem.Str.ofString "data") ⟨224, 27, 224, 31⟩ ⟨224, 27, 224, 37⟩ ⟨224, 38, 224, 42⟩ ⟨224, 27, 224, 43⟩) (lamScope (PySem.Str.ofString "data") (PySem.Str.ofString "kept")) [(PySem.Str.ofString "kept", ak), (PySem.Str.ofString "data", ad)] pm c' ctv) ∈ news)
  (h2 : (c', oc) ∈ news) (h3 : (ad, oD) ∈ news) (h4 : (ak, oK) ∈ news) (hoD : oD.data = .cell (some (.bytes b tb))) (hoK : oK.data = .cell (some (.ref x))) (h5 : (x, instObj 114 d) ∈ news) (h6 : (d, dictOf (fltE w k1 k2 k3 k4 k5 k6 sm sf tsf lf (idxV iv)) 6) ∈ news)
  (hvs : oc.data = .fields vs) (hvq : vs[1]? = some (.str qual tq)) (hsf : Safe sf) (hb : b.size ≤ 64) : LamAt w p loose mean mg mb base news f (cleanV sf iv b) := by
  intro dp un gd cn cs a ccd cl outer A₀ h₀ L m s Q E B F X N T hk hdp hun hret herr
  revert X; k_fill; intro X
  have N2 := news6 N h1 h2 h3 h4 h5 h6
  clear N h1 h2 h3 h4 h5 h6
  refine wpAny_call ?_
  k_dflt (refine' kla_code (binds := []) ?k1 ?k2 ?k3 ?k4 ?k5 ?kA ?kF ?kK ?k6 ?k7 ?k8 ?k9 ?kB ?_ ?c2 ?c3 ?c4 ?c5; (case kA => exact rfl); (case kF => exact rfl); (case kK => first | exact rfl | assumption); (case k1 => k_asm); (case k2 => k_asm); (case k3 => k_asm); (case k4 => k_asm); (case k5 => k_asm); (case k6 => k_mem); (case k7 => exact codeRec_news (by k_asm) (by k_mem) (by assumption) (by assumption)); (case k8 => ktr_room); (case k9 => exact rfl); (case c5 => decide); (case kB => exact locs rfl); (case c2 => exact rfl); (case c3 => exact rfl); (case c4 => exact rfl); k_whole; intro g' L' h' FG' F' N' B' X' T'; (try dsimp only); (try k_lift B'); (try k_fold))
  all_goals dsimp only [lamBody, lamScope, noArgs]
  k_steps
  all_goals first
    | (rename News h₀ L _ _ => kN
       exact hret _ _ _ _ (by assumption) (by k_asm) (fun p hp => kN p (in_tl6 hp)))
    | (rename RaisedSN _ _ _ _ _ _ _ => RS
       exact herr _ _ _ _ (by assumption) (by assumption) (sub_sn RS (fun p hp => in_tl6 hp)) (by assumption))
set_option maxRecDepth 100000 in
set_option maxHeartbeats 8000000 in
theorem lam_again (w : World) {p : Program} {loose : List Str} {mean : ExcName → Option Value} {mg mb : Str → Option Value} {base : Heap} {news : List (Addr × Obj)}
  {f c' ad ak x d : Addr} {oc oD oK : Obj} {vs : Array Value} {qual : Str} {tq : Tok} {pm ctv : Value} {b sf : Array UInt8} {tb tsf k1 k2 k3 k4 k5 k6 : Tok} {sm : Value} {lf : Bool} {iv : Option Bool}
  (h1 : (f, kla_obj "<lambda>" qual noArgs (lamBody (PySem.Str.ofString "clean") (PySem.Str.ofString "out") ⟨231, 32, 231, 36⟩ ⟨231, 32, 231, 42⟩ ⟨231, 43, 231, 46⟩ ⟨231, 32, 231, 47⟩) (lamScope (PySem.Str.ofString "kept") (PySem.Str.ofString "out")) [(PySem.Str.ofString "out", ad), (PySem.Str.ofString "kept", ak)] pm c' ctv) ∈ news)
  (h2 : (c', oc) ∈ news) (h3 : (ad, oD) ∈ news) (h4 : (ak, oK) ∈ news) (hoD : oD.data = .cell (some (.bytes b tb))) (hoK : oK.data = .cell (some (.ref x))) (h5 : (x, instObj 114 d) ∈ news) (h6 : (d, dictOf (fltE w k1 k2 k3 k4 k5 k6 sm sf tsf lf (idxV iv)) 6) ∈ news)
  (hvs : oc.data = .fields vs) (hvq : vs[1]? = some (.str qual tq)) (hsf : Safe sf) (hb : b.size ≤ 64) : LamAt w p loose mean mg mb base news f (cleanV sf iv b) := by
  intro dp un gd cn cs a ccd cl outer A₀ h₀ L m s Q E B F X N T hk hdp hun hret herr
  revert X; k_fill; intro X
  have N2 := news6 N h1 h2 h3 h4 h5 h6
  clear N h1 h2 h3 h4 h5 h6
  refine wpAny_call ?_
  k_dflt (refine' kla_code (binds := []) ?k1 ?k2 ?k3 ?k4 ?k5 ?kA ?kF ?kK ?k6 ?k7 ?k8 ?k9 ?kB ?_ ?c2 ?c3 ?c4 ?c5; (case kA => exact rfl); (case kF => exact rfl); (case kK => first | exact rfl | assumption); (case k1 => k_asm); (case k2 => k_asm); (case k3 => k_asm); (case k4 => k_asm); (case k5 => k_asm); (case k6 => k_mem); (case k7 => exact codeRec_news (by k_asm) (by k_mem) (by assumption) (by assumption)); (case k8 => ktr_room); (case k9 => exact rfl); (case c5 => decide); (case kB => exact locs rfl); (case c2 => exact rfl); (case c3 => exact rfl); (case c4 => exact rfl); k_whole; intro g' L' h' FG' F' N' B' X' T'; (try dsimp only); (try k_lift B'); (try k_fold))
  all_goals dsimp only [lamBody, lamScope, noArgs]
  k_steps
  all_goals first
    | (rename News h₀ L _ _ => kN
       exact hret _ _ _ _ (by assumption) (by k_asm) (fun p hp => kN p (in_tl6 hp)))
    | (rename RaisedSN _ _ _ _ _ _ _ => RS
       exact herr _ _ _ _ (by assumption) (by assumption) (sub_sn RS (fun p hp => in_tl6 hp)) (by assumption))
set_option maxRecDepth 100000 in
set_option maxHeartbeats 8000000 in
theorem lam_smudge (w : World) {p : Program} {loose : List Str} {mean : ExcName → Option Value} {mg mb : Str → Option Value} {base : Heap} {news : List (Addr × Obj)}
  {f c' ad ak x d : Addr} {oc oD oK : Obj} {vs : Array Value} {qual : Str} {tq : Tok} {pm ctv : Value} {b sf : Array UInt8} {tb tsf k1 k2 k3 k4 k5 k6 : Tok} {sm : Value} {lf : Bool} {iv : Option Bool}
  (h1 : (f, kla_obj "<lambda>" qual noArgs (lamBody (PySem.Str.ofString "smudge") (PySem.Str.ofString "data") ⟨229, 27, 229, 31⟩ ⟨229, 27, 229, 38⟩ ⟨229, 39, 229, 43⟩ ⟨229, 27, 229, 44⟩) (lamScope (PySem.Str.ofString "data") (PySem.Str.ofString "kept")) [(PySem.Str.ofString "kept", ak), (PySem.Str.ofString "data", ad)] pm c' ctv) ∈ news)
  (h2 : (c', oc) ∈ news) (h3 : (ad, oD) ∈ news) (h4 : (ak, oK) ∈ news) (hoD : oD.data = .cell (some (.bytes b tb))) (hoK : oK.data = .cell (some (.ref x))) (h5 : (x, instObj 114 d) ∈ news) (h6 : (d, dictOf (fltE w k1 k2 k3 k4 k5 k6 sm sf tsf lf (idxV iv)) 6) ∈ news)
  (hvs : oc.data = .fields vs) (hvq : vs[1]? = some (.str qual tq)) (hsf : Safe sf) (hsm : sm = .none ∨ sm = .bool true) (hb : b.size ≤ 32) : LamAt w p loose mean mg mb base news f (some (smudgeV sm lf b)) := by
  intro dp un gd cn cs a ccd cl outer A₀ h₀ L m s Q E B F X N T hk hdp hun hret herr
  revert X; k_fill; intro X
  have N2 := news6 N h1 h2 h3 h4 h5 h6
  clear N h1 h2 h3 h4 h5 h6
  refine wpAny_call ?_
  k_dflt (refine' kla_code (binds := []) ?k1 ?k2 ?k3 ?k4 ?k5 ?kA ?kF ?kK ?k6 ?k7 ?k8 ?k9 ?kB ?_ ?c2 ?c3 ?c4 ?c5; (case kA => exact rfl); (case kF => exact rfl); (case kK => first | exact rfl | assumption); (case k1 => k_asm); (case k2 => k_asm); (case k3 => k_asm); (case k4 => k_asm); (case k5 => k_asm); (case k6 => k_mem); (case k7 => exact codeRec_news (by k_asm) (by k_mem) (by assumption) (by assumption)); (case k8 => ktr_room); (case k9 => exact rfl); (case c5 => decide); (case kB => exact locs rfl); (case c2 => exact rfl); (case c3 => exact rfl); (case c4 => exact rfl); k_whole; intro g' L' h' FG' F' N' B' X' T'; (try dsimp only); (try k_lift B'); (try k_fold))
  all_goals dsimp only [lamBody, lamScope, noArgs]
  k_steps
  all_goals
    (rename News h₀ L _ _ => kN
     exact hret _ _ _ _ rfl (by k_asm) (fun p hp => kN p (in_tl6 hp)))
end
section
def ansV : Option (Array UInt8) → Tok → Value
  | none, t => .str (PySem.Str.ofString "refused") t
  | some b, t => .bytes b t
theorem lamAt_use {w : World} {p : Program} {loose : List Str} {mean : ExcName → Option Value} {mg mb : Str → Option Value} {base : Heap} {news : List (Addr × Obj)} {f : Addr} {o : Option (Array UInt8)} (hL : LamAt w p loose mean mg mb base news f o)
  {dp un : Nat} {gd : Option (List Code)} {cn : Str} {cs : Scope} {a : Addr} {ccd : Value} {cl : List (Str × Addr)} {outer : List Env} {A₀ : Around} {h₀ : Heap} {L : Addr} {m : Str → Option Value} {s : Shared} {Q E : Value → Shared → Prop}
  (B : Below A₀ base outer h₀) (F : Fr h₀ L s.heap m) (X : (hd.heap_1 w.params).In h₀) (N : News h₀ L s.heap news) (T : Top p loose mean mg mb h₀) (hk : cs.kind = .function) (hdp : dp + 8 < recursionLimit) (hun : un + 80 < cLine)
  (hret : ∀ (t : Tok) (c : Array UInt8) (h' : Heap) (tk' : Nat), o = some c → Fr h₀ L h' m → News h₀ L h' news → Q (.bytes c t) { s with heap := h', toks := tk' })
  (herr : ∀ (e : Addr) (h' g₂ : Heap) (tk' : Nat), o = none → Fr h₀ L g₂ m → RaisedSN base g₂ (envX cn cs L a ccd cl :: outer) e (.type "ValueError") news h' → g₂.UpToSlots h' → E (.ref e) { s with heap := h', toks := tk' }) :
  wpAny (model PySem.Challenge.rw_jh0007_01.row.prog w) (ktrTop dp un gd cn cs L a ccd cl outer) (call (.ref f) []) Q E s :=
  hL dp un gd cn cs a ccd cl outer A₀ h₀ L m s Q E B F X N T hk hdp hun hret herr
local macro_rules | `(tactic| k_room) => `(tactic| ktr_room)
local macro_rules | `(tactic| k_units) => `(tactic| ktr_units)
theorem words14 : True := by
  k_with_none
  k_with "call ref" => (k_here; (with_reducible show wpAny _ _ (call (Value.ref _) []) _ _ _); k_dflt (refine' lamAt_use (by assumption) (by k_asm) (by k_asm) (by k_asm) (by k_asm) (by k_asm) (by first | exact rfl | assumption) (by ktr_room) (by ktr_units) (fun t' c' h' tk' hq' F' N' => ?_) (fun e' h' g' tk' hq' FG' RS' U' => ?_)) <;> (try k_sweep))
  k_with "callWith ref" => (k_here; k_dflt (refine' callWith_F0 (by exact FnAt.of (by k_asm) (by assumption)) ?_; k_whole; try dsimp only [List.nil_append, List.cons_append]))
  trivial
set_option maxRecDepth 100000 in
set_option maxHeartbeats 600000 in
theorem c_ans (w : World) {p : Program} {loose : List Str} {mean : ExcName → Option Value} {mg mb : Str → Option Value}
  (dp un : Nat) (gd : Option (List Code)) (cn : Str) (cs : Scope) (a : Addr) (ccd : Value) (cl : List (Str × Addr)) (A₀ : Around) (base h₀ : Heap) (L : Addr) (m : Str → Option Value) (news : List (Addr × Obj)) (s : Shared) (Q E : Value → Shared → Prop)
  (B : Below A₀ base [] h₀) (F : Fr h₀ L s.heap m) (X : (hd.heap_1 w.params).In h₀) (N : News h₀ L s.heap news) (T : Top p loose mean mg mb h₀) (hk : cs.kind = .function) (XB : (hd.heap_1 w.params).In base) (TB : Top p loose mean mg mb base) (hdp : dp + 12 < recursionLimit) (hun : un + 120 < cLine)
  (f : Addr) (o : Option (Array UInt8)) (hL : LamAt w p loose mean mg mb base news f o) {oc : Value} {od : Option Addr} {fd : FuncData} {sl : Array (Option Value)} (hfo : (f, (⟨oc, od, .func fd, sl⟩ : Obj)) ∈ news)
  (hret : ∀ (t : Tok) (h' : Heap) (tk' : Nat), Fr h₀ L h' m → News h₀ L h' news → Q (ansV o t) { s with heap := h', toks := tk' }) :
  wpAny (model PySem.Challenge.rw_jh0007_01.row.prog w) (ktrTop dp un gd cn cs L a ccd cl []) (call (.ref 215) [.ref f]) Q E s := by
  revert X; k_fill; intro X
  refine wpAny_call ?_
  k_dflt (refine' code_tryX ?k1 ?k2 ?k3 ?k4 ?k5 ?kA ?kF ?kK ?k6 ?k7 ?k8 ?k9 ?kB ?_ ?c2 ?c3 ?c4 ?c5; (case kA => exact rfl); (case kF => exact rfl); (case kK => first | exact rfl | assumption); (case k1 => k_asm); (case k2 => k_asm); (case k3 => k_asm); (case k4 => k_asm); (case k5 => k_asm); (case k6 => k_is); (case k7 => k_is); (case k8 => ktr_room); (case k9 => exact BindsTo.of_eq rfl); (case kB => exact locs rfl); (case c2 => exact rfl); (case c3 => exact rfl); (case c4 => exact rfl); (case c5 => decide); k_whole; intro g' L' h' FG' F' N' B' X' T' D'; (try dsimp only); (try k_lift B'); (try k_fold))
  k_steps
  all_goals
    (rename o = _ => ho
     subst ho
     exact hret _ _ _ (by k_asm) (by k_asm))
end
section
def lawB : List Stmt := match PySem.Challenge.pw_jh0007_01.main.body.getLast? with
  | some (.FunctionDef _ _ b _ _ _ _ _ _ _) => b
  | _ => []
def lawS : Scope := match PySem.Challenge.pw_jh0007_01.main.body.getLast? with
  | some (.FunctionDef _ _ _ _ _ _ sc _ _ _) => sc
  | _ => { kind := .module, names := [], isGenerator := false, isCoroutine := false, more := [] }
theorem if_keep {m : Str → Option Value} {x z : Str} {v u : Value} (h : m x = some v) (hz : ¬ x = z) : (fun y => if y = z then some u else m y) x = some v := by
  show (if x = z then some u else m x) = some v
  rw [if_neg hz]; exact h
end
section
def lostB (b : Array UInt8) : Bool := hasA #[13, 10] b && (!hasA #[13, 10] (inA b) && (outA (inA b)).toList != b.toList)
def due1 (sf b : Array UInt8) : Option (Array UInt8) := if (lostB b && sf.toList == (#[116, 114, 117, 101] : Array UInt8).toList) = true then none else some (inA b)
def due2 (sf : Array UInt8) (lf : Bool) (iv : Option Bool) (b : Array UInt8) : Option (Array UInt8) := if (hasA #[0] b || (lf && (iv == some true && hasA #[13, 10] b))) = true then some b else due1 sf b
theorem crB_in (b : Array UInt8) : crB b (inA b) = lostB b := by
  unfold crB lostB
  cases h : hasA #[13, 10] b
  · rw [inA_id b h, h]; simp
  · cases h2 : hasA #[13, 10] (inA b)
    · simp only [Bool.not_false, Bool.and_self, if_true, Bool.true_and]
      by_cases e : outA (inA b) = b
      · rw [e]; simp
      · have : (outA (inA b)).toList ≠ b.toList := fun q => e (Array.toList_inj.mp q)
        simp [e, this]
    · simp
theorem crlf_in (b : Array UInt8) (h : hasA #[13, 10] (inA b) = true) : hasA #[13, 10] b = true := by
  cases q : hasA #[13, 10] b
  · rw [inA_id b q, q] at h; exact h
  · rfl
theorem sf_dec (sf : Array UInt8) : (sf.toList == (#[116, 114, 117, 101] : Array UInt8).toList) = decide (sf = #[116, 114, 117, 101]) := by
  by_cases e : sf = #[116, 114, 117, 101]
  · subst e; rfl
  · rw [decide_eq_false e, beq_eq_false_iff_ne]
    exact fun q => e (Array.toList_inj.mp q)
theorem due_clean (sf : Array UInt8) (lf : Bool) (iv : Option Bool) (b : Array UInt8) : due2 sf lf iv b = cleanV sf (if lf = true then iv else none) b := by
  unfold due2 cleanV due1 refuse
  rw [sf_dec, crB_in]
  cases h0 : hasA #[0] b
  · cases lf
    · simp [Bool.and_comm]
    · rcases iv with _ | _ | _
      · simp [Bool.and_comm]
      · simp [Bool.and_comm]
      · cases hasA #[13, 10] b <;> simp [Bool.and_comm]
  · simp
theorem refuse_out2 (sf b : Array UInt8) : refuse sf (outA b) (inA b) = false := by
  unfold refuse crB
  have e : inA (inA b) = inA b ∨ True := .inr trivial
  cases h : hasA #[13, 10] (inA b)
  · rw [outA_inA b h]
    cases hasA #[13, 10] (outA b) <;> simp
  · have := outA_has b (crlf_in b h)
    simp [this]
theorem smudge_size (sm : Value) (lf : Bool) (b : Array UInt8) : (smudgeV sm lf b).size ≤ 2 * b.size := by
  have := outA_size b
  unfold smudgeV
  split
  · omega
  · split
    · omega
    · split <;> omega
theorem due1_yes {sf b : Array UInt8} (h1 : lostB b = true) (h2 : (sf.toList == (#[116, 114, 117, 101] : Array UInt8).toList) = true) : due1 sf b = none := by
  unfold due1; rw [h1, h2]; rfl
theorem due1_no1 {sf b : Array UInt8} (h1 : lostB b = false) : due1 sf b = some (inA b) := by
  unfold due1; rw [h1]; rfl
theorem due1_no2 {sf b : Array UInt8} (h2 : (sf.toList == (#[116, 114, 117, 101] : Array UInt8).toList) = false) : due1 sf b = some (inA b) := by
  unfold due1; rw [h2]; simp
theorem law_fin {sf b : Array UInt8} {sm : Value} {iv : Option Bool} (h1 : (cleanV sf (if false = true then iv else none) b).isNone = false) (h0 : hasA #[0] b = false) :
    decide (cleanV sf (if false = true then iv else none) (smudgeV sm false b) = some (inA b)) = true := by
  have z : (if false = true then iv else none) = none := rfl
  rw [z] at *
  have h2 : cleanV sf none b = some (inA b) := by
    unfold cleanV at h1 ⊢
    simp only [h0] at h1 ⊢
    simp only [Bool.false_eq_true, if_false, reduceCtorEq, false_and] at h1 ⊢
    split at h1
    · simp at h1
    · rename_i q; simp [q]
  have h3 : cleanV sf none (outA b) = some (inA b) := by
    unfold cleanV
    simp [has0_outA, h0, inA_outA, refuse_out2]
  rw [decide_eq_true_eq]
  unfold smudgeV
  split
  · exact h2
  · simp [h0, h3]
theorem law_fin2 {sf b : Array UInt8} {sm : Value} {lf : Bool} {iv iv' : Option Bool} (hiv : iv' = if lf = true then iv else none) (h1 : (cleanV sf iv' b).isNone = false) (hl : lf = false) (h0 : hasA #[0] b = false) :
    cleanV sf iv' (smudgeV sm lf b) = some (inA b) := by
  subst hiv hl
  exact of_decide_eq_true (law_fin h1 h0)
theorem news_ne4 {h₀ h : Heap} {L a b : Addr} {oa ob : Obj} {news : List (Addr × Obj)} (N : News h₀ L h news) (ha : (a, oa) ∈ news) (hb : (b, ob) ∈ news) (hn : oa.data ≠ ob.data) : @Ne Nat a b := by
  intro e
  have e : a = b := e
  subst e
  have h1 := (N _ ha).1
  rw [(N _ hb).1] at h1
  exact hn (congrArg Obj.data (Option.some.inj h1)).symm
theorem six_ne {h₀ h : Heap} {L x d a1 a2 a3 : Addr} {o2 o3 o4 : Obj} {v2 v3 v4 : Option Value} {es : List DictEntry} {n : Nat} (N : News h₀ L h [(x, instObj 114 d), (d, dictOf es n), (a3, o4), (a2, o3), (a1, o2), (217, tabObj #[])]) (h2 : o2.data = .cell v2) (h3 : o3.data = .cell v3) (h4 : o4.data = .cell v4) :
    (@Ne Nat x d ∧ @Ne Nat x a3 ∧ @Ne Nat x a2 ∧ @Ne Nat x a1 ∧ @Ne Nat x 217) ∧ (@Ne Nat d a3 ∧ @Ne Nat d a2 ∧ @Ne Nat d a1 ∧ @Ne Nat d 217) := by
  refine ⟨⟨?_, ?_, ?_, ?_, ?_⟩, ?_, ?_, ?_, ?_⟩
  · exact news_ne4 N (.head _) (.tail _ (.head _)) (by intro e; cases e)
  · exact news_ne4 N (.head _) (.tail _ (.tail _ (.head _))) (by rw [h4]; intro e; cases e)
  · exact news_ne4 N (.head _) (.tail _ (.tail _ (.tail _ (.head _)))) (by rw [h3]; intro e; cases e)
  · exact news_ne4 N (.head _) (.tail _ (.tail _ (.tail _ (.tail _ (.head _))))) (by rw [h2]; intro e; cases e)
  · exact news_ne4 N (.head _) (.tail _ (.tail _ (.tail _ (.tail _ (.tail _ (.head _)))))) (by intro e; cases e)
  · exact news_ne4 N (.tail _ (.head _)) (.tail _ (.tail _ (.head _))) (by rw [h4]; intro e; cases e)
  · exact news_ne4 N (.tail _ (.head _)) (.tail _ (.tail _ (.tail _ (.head _)))) (by rw [h3]; intro e; cases e)
  · exact news_ne4 N (.tail _ (.head _)) (.tail _ (.tail _ (.tail _ (.tail _ (.head _))))) (by rw [h2]; intro e; cases e)
  · exact news_ne4 N (.tail _ (.head _)) (.tail _ (.tail _ (.tail _ (.tail _ (.tail _ (.head _)))))) (by intro e; cases e)
section
variable {M : Model} {prog : Program} {w : World} {A : Around} {E : Value → Shared → Prop} {s : Shared} {h₀ : Heap} {L : Addr} {m : Str → Option Value} {news : List (Addr × Obj)} {st : Stmt} {rest : List Stmt} {env : Env} {Q : Flow → Shared → Prop}
def NextPost (h₀ : Heap) (L : Addr) (m : Str → Option Value) (news : List (Addr × Obj)) (s : Shared) (fl : Flow) (s' : Shared) : Prop :=
  fl = .next ∧ ∃ h tk, s' = { s with heap := h, toks := tk } ∧ Fr h₀ L h m ∧ News h₀ L h news
def CellPost (h₀ : Heap) (L : Addr) (m : Str → Option Value) (c : Array UInt8) (nf : Obj → List (Addr × Obj)) (s : Shared) (fl : Flow) (s' : Shared) : Prop :=
  fl = .next ∧ ∃ o t h tk, o.data = .cell (some (.bytes c t)) ∧ s' = { s with heap := h, toks := tk } ∧ Fr h₀ L h m ∧ News h₀ L h (nf o)
theorem cutCell {a : Addr} {o : Obj} {nf : Obj → List (Addr × Obj)} (c : Array UInt8) (F : Fr h₀ L s.heap m) (_ : News h₀ L s.heap news) (_ : UpdF a o news nf) (_ : (a, o) ∈ news)
    (h1 : wpAny M A (exec st env) (CellPost h₀ L m c nf s) E s)
    (h2 : ∀ o t h tk, o.data = .cell (some (.bytes c t)) → Fr h₀ L h m → News h₀ L h (nf o) → wpAny M A (execs rest env) Q E { s with heap := h, toks := tk }) : wpAny M A (execs (st :: rest) env) Q E s :=
  wpAny_execs_cons (wpAny_mono h1 (fun fl s' h => by
    obtain ⟨rfl, o, t, h, tk, ho, rfl, F', N'⟩ := h
    exact h2 o t h tk ho F' N') fun _ _ e => e)
theorem cell_end {c c' : Array UInt8} {nf : Obj → List (Addr × Obj)} {o : Obj} {t : Tok} {h : Heap} {tk : Nat} {nw : List (Addr × Obj)} (F : Fr h₀ L h m) (N : News h₀ L h nw) (ho : o.data = .cell (some (.bytes c' t))) (e : c' = c) (hs : ∀ q ∈ nf o, q ∈ nw) : CellPost h₀ L m c nf s .next { s with heap := h, toks := tk } :=
  ⟨rfl, o, t, h, tk, e ▸ ho, rfl, F, fun q hq => N q (hs q hq)⟩
theorem ne_ans {o : Option (Array UInt8)} {t u : Tok} {Q : Value → Shared → Prop} (h : Q (.bool false) s) : wpAny (model prog w) A (compareOp .NotEq (ansV o t) (ansV o u)) Q E s := by
  cases o
  · exact ne_str (by simpa using h)
  · exact ne_bytes_same h
theorem ne_ans_some {c : Array UInt8} {t u : Tok} {Q : Value → Shared → Prop} (h : Q (.bool false) s) : wpAny (model prog w) A (compareOp .NotEq (ansV (some c) t) (.bytes c u)) Q E s := ne_bytes_same h
theorem eq_ans_ref {o : Option (Array UInt8)} {t u : Tok} {Q : Value → Shared → Prop} (h : Q (.bool o.isNone) s) : wpAny (model prog w) A (compareOp .Eq (ansV o t) (.str (PySem.Str.ofString "refused") u)) Q E s := by
  cases o
  · exact eq_str (by simpa using h)
  · exact eq_bytes_str h
theorem eq_ans_fin {o : Option (Array UInt8)} {c : Array UInt8} {t u : Tok} {Q : Value → Shared → Prop} (e : o = some c) (h : Q (.bool true) s) : wpAny (model prog w) A (compareOp .Eq (ansV o t) (.bytes c u)) Q E s := by
  subst e
  exact eq_bytes (by simpa using h)
theorem is_idx {iv : Option Bool} {Q : Value → Shared → Prop} (h : Q (.bool (iv == some true)) s) : wpAny M A (compareOp .Is (idxV iv) (.bool true)) Q E s := by
  rcases iv with _ | _ | _
  · exact wpAny_is_other (by rfl) (by intro x; cases x) h
  · exact wpAny_is_other (by rfl) (by intro x; cases x) h
  · exact wpAny_is_self (by rfl) h
theorem fin_end {m' : Str → Option Value} {h' : Heap} {tk' : Nat} {X : Bool} {nw : List (Addr × Obj)} {ps' : Array Value} (hQ : ∀ m' h' tk' ps', Fr h₀ L h' m' → News h₀ L h' [(217, tabObj ps')] → Q (.ret (.bool true)) { s with heap := h', toks := tk' })
    (F : Fr h₀ L h' m') (N : News h₀ L h' nw) (hm : (217, tabObj ps') ∈ nw) (hX : X = true) : Q (.ret (.bool X)) { s with heap := h', toks := tk' } := by
  subst hX
  exact hQ _ _ _ _ F fun q hq => by rw [List.mem_singleton.mp hq]; exact N _ hm
end
end
section
local macro_rules | `(tactic| k_ne) => `(tactic| (refine neN ?_; first | with_reducible assumption | (refine Ne.symm ?_; with_reducible assumption) | (refine Nat.ne_of_gt ?_; with_reducible assumption) | (refine Nat.ne_of_lt ?_; with_reducible assumption)))
theorem words15 : True := by
  k_with_none
  k_with "callWith ref" => (k_here; k_dflt (refine' callWith_K (by k_asm) (by k_is) ?_; k_whole))
  k_with "compareOp In bytes bytes" => (k_here; k_dflt (refine' in_J (by k_asm) (by k_asm) (by rfl) (by decide) ?_; k_whole); intro h' tk' F' N'; (try k_sweep))
  k_with "compareOp NotIn bytes bytes" => (k_here; k_dflt (refine' notin_J (by k_asm) (by k_asm) (by rfl) (by decide) ?_; k_whole); intro h' tk' F' N'; (try k_sweep))
  k_with "compareOp Eq none bytes" => (k_here; refine eq_none_bytes ?_)
  k_with "compareOp Eq bytes str" => (k_here; refine eq_bytes_str ?_)
  k_with "subscriptTail" => (k_here; (with_reducible show wpAny _ _ (subscriptTail _ (Expr.Slice _ _ none _) (Value.bytes _ _) (Value.ref _)) _ _ _); (with_reducible rename Fr _ _ _ _ => F'); (with_reducible rename News _ _ _ _ => N'); (refine slice_J (s := ⟨_, _, _, _, _⟩) F' N' (by constructor) (by constructor) (by first | omega | ((try simp only [List.size_toArray, List.length_cons, List.length_nil]); omega)) ?_); intro h' t' k' F' N' hz'; (try k_sweep))
  k_with "subscriptTail" => (k_here; (with_reducible show wpAny _ _ (subscriptTail _ _ (Value.bytes _ _) (Value.int _ _)) _ _ _); (refine item_J (by omega) (by omega) (by omega) ?_); intro t' k')
  k_with "getMethod bytes" => (k_here; first | refine method_replace ?_ | refine method_split ?_ | refine method_join ?_ | refine method_endswith ?_)
  k_with "call builtin:bytes.endswith" => (k_here; refine call_endswith ?_)
  k_with "call builtin:bytes.replace" => (k_here; refine replace_J (by omega) ?_; intro t' k')
  k_with "call builtin:bytes.split" => (k_here; k_dflt (refine' split_J (by omega) (by k_asm) (by k_asm) ?_; k_whole); intro l' vs' ps' h' k' hv' hps' hln' hsz' F' N' l1; (try k_sweep))
  k_with "binaryOp Add bytes bytes" => (k_here; (with_reducible show wpAny _ _ (binaryOp Operator.Add (Value.bytes _ _) (Value.bytes _ _)) _ _ _); (refine KBy.add_bytes (by (try simp only [List.size_toArray, List.length_cons, List.length_nil]); omega) ?_); intro t' k')
  k_with "InvEndN" => k_dflt kst_close
  k_with "compareOp In bytes ref" => (k_here; k_dflt (refine' in_tup_bytes (by exact News.isTup (by k_asm) (by k_mem)) (by repeat constructor) ?_))
  k_with "getMethod bytes" => (k_here; refine KBd.method ?_)
  k_with "call builtin:bytes.decode" => (k_here; refine call_decode_empty ?_; intro t' k')
  k_with "compareOp In str ref" => (k_here; (with_reducible show wpAny _ _ (compareOp CmpOp.In (Value.str _ _) (Value.ref 43)) _ _ _); k_dflt (refine' in_auto (by k_asm) (by k_asm) (by first | rfl | decide +kernel) ?_; k_whole))
  k_with "compareOp Is bytes bool" => (k_here; with_reducible refine is_bb ?_)
  k_with "compareOp Is none bool" => (k_here; with_reducible refine is_nb ?_)
  k_with "ite" => first | with_reducible refine ite_tt ?_ | with_reducible refine ite_ff ?_ | with_reducible refine ite_True_then ?_ | with_reducible refine ite_False_else ?_
  k_with "execs cons" => (k_here; (with_reducible show wpAny _ _ (execs (Stmt.If (PySem.Expr.BoolOp _ _ _) _ _ _ :: _) _) _ _ _); refine Stop.go ?_)
  k_with "execs cons" => (k_here; (with_reducible show wpAny _ _ (execs (Stmt.Assign [PySem.Expr.Name (PySem.Str.ofString "lost") _] _ _ :: _) _) _ _ _); refine Stop.go ?_)
  k_with "execs cons" => (k_here; (with_reducible show wpAny _ _ (execs (Stmt.Assign [PySem.Expr.Name (PySem.Str.ofString "due") _] (PySem.Expr.IfExp _ _ _ _) _ :: _) _) _ _ _); refine Stop.go ?_)
  k_with "compareOp NotEq" => (k_here; first | with_reducible refine ne_ans ?_ | with_reducible refine ne_ans_some ?_)
  k_with "compareOp Eq" => (k_here; first | with_reducible refine eq_ans_ref ?_ | (refine eq_ans_fin (law_fin2 (by assumption) (by assumption) (by assumption) (by assumption)) ?_))
  k_with "compareOp Is" => (k_here; with_reducible refine is_idx ?_)
  k_with "call ref" => (k_here; (with_reducible show wpAny _ _ (call (Value.ref 187) [Value.bytes _ _]) _ _ _); k_dflt (refine' c_in _ _ _ _ _ _ _ _ _ _ _ _ _ _ _ _ _ _ _ (by k_asm) (by k_asm) (by k_asm) (by k_asm) (by k_asm) (by first | exact rfl | assumption) (by ktr_room) (by ktr_units) _ _ (by omega) ?_); intro t' h' tk' F' N'; (try k_sweep))
  k_with "call ref" => (k_here; (with_reducible show wpAny _ _ (call (Value.ref 194) [Value.bytes _ _]) _ _ _); k_dflt (refine' c_out _ _ _ _ _ _ _ _ _ _ _ _ _ _ _ _ _ _ _ (by k_asm) (by k_asm) (by k_asm) (by k_asm) (by k_asm) (by first | exact rfl | assumption) (by ktr_room) (by ktr_units) _ _ (by omega) ?_); intro t' h' tk' F' N'; (try k_sweep))
  k_with "call ref" => (k_here; (with_reducible show wpAny _ _ (call (Value.ref 215) [Value.ref _]) _ _ _); k_dflt (refine' c_ans _ _ _ _ _ _ _ _ _ _ _ _ _ _ _ _ _ _ (by k_asm) (by k_asm) (by k_asm) (by k_asm) (by k_asm) (by first | exact rfl | assumption) (by k_asm) (by k_asm) (by ktr_room) (by ktr_units) _ _ (by first | (refine' lam_smudge _ (by k_mem) (by k_mem) (by k_mem) (by k_mem) (by assumption) (by assumption) (by k_mem) (by k_mem) (by assumption) (by assumption) (by assumption) (by assumption) (by omega)) | (refine' lam_clean _ (by k_mem) (by k_mem) (by k_mem) (by k_mem) (by assumption) (by assumption) (by k_mem) (by k_mem) (by assumption) (by assumption) (by assumption) (by omega)) | (refine' lam_again _ (by k_mem) (by k_mem) (by k_mem) (by k_mem) (by assumption) (by assumption) (by k_mem) (by k_mem) (by assumption) (by assumption) (by assumption) (by omega))) (by k_mem) ?_); intro t' h' tk' F' N'; (try k_sweep))
  trivial
set_option maxRecDepth 100000 in
set_option maxHeartbeats 8000000 in
theorem law_tail4 {w : World} {p : Program} {loose : List Str} {mean : ExcName → Option Value} {mg mb : Str → Option Value} {fa : Addr} {h₀ : Heap} {L : Addr} {m : Str → Option Value} {s : Shared} {Q : Flow → Shared → Prop} {E : Value → Shared → Prop} {sc : Scope} {bd : List Stmt} {news : List (Addr × Obj)}
  {tsf ts2 tb ta : Tok} {o2 o3 o4 : Obj} {v4 : Option Value} {sf b : Array UInt8} {iv iv' : Option Bool} {ac : Act} {x d : Addr} {k1 k2 k3 k4 k5 k6 : Tok} {sm : Value} {lf gs : Bool}
  (hbd : bd = lawB.drop 18) (hsc : sc = lawS) (B : Below callerA h₀ [] h₀) (F : Fr h₀ L s.heap m) (N : News h₀ L s.heap news) (X : (hd.heap_1 w.params).In h₀) (T : Top p loose mean mg mb h₀) (C : CodeHd h₀ 219 217)
  (k0 : ∀ q ∈ ([(x, instObj 114 d), (d, dictOf (fltE w k1 k2 k3 k4 k5 k6 sm sf ts2 lf (idxV iv')) 6), (L + 1 + 1 + 1 + 1, o4), (L + 1 + 1 + 1, o3), (L + 1 + 1, o2), (217, tabObj #[])] : List (Addr × Obj)), q ∈ news)
  (hc2 : o2.data = .cell (some (.bytes b tb))) (hc3 : o3.data = .cell (some (.ref x))) (hc4 : o4.data = .cell v4)
  (l0 : @LT.lt Nat _ 217 L) (hb : b.size ≤ 24)
  (m1 : m (PySem.Str.ofString "index") = some (idxV iv)) (m2 : m (PySem.Str.ofString "safe") = some (.bytes sf tsf)) (m3 : m (PySem.Str.ofString "action") = some (.str ac.str ta)) (m4 : m (PySem.Str.ofString "guess") = some (.bool gs))
  (hS : Safe sf) (hac : ac ≠ .bin) (hsm : sm = if ac.crlf = true then .bool true else .none) (hgs : gs = lf) (hlf : lf = ac.auto) (hiv : iv' = if lf = true then iv else none)
  (hQ : ∀ m' h' tk' ps', Fr h₀ L h' m' → News h₀ L h' [(217, tabObj ps')] → Q (.ret (.bool true)) { s with heap := h', toks := tk' }) :
  wpAny (model PySem.Challenge.rw_jh0007_01.row.prog w) (callerA.deeper (envOfC (PySem.Str.ofString "law") sc L fa (.ref 219))) (execs bd (envOfC (PySem.Str.ofString "law") sc L fa (.ref 219))) Q E s := by
  conv at hbd => rhs; whnf
  conv at hsc => rhs; whnf
  subst hbd hsc
  replace hgs := hgs.symm
  subst hgs
  have N1 := fun q hq => N q (k0 q hq)
  replace N1 : News _ _ _ _ := N1
  clear N k0
  have e : m = fun y => if y = PySem.Str.ofString "index" then some (idxV iv) else if y = PySem.Str.ofString "safe" then some (.bytes sf tsf) else if y = PySem.Str.ofString "action" then some (.str ac.str ta) else if y = PySem.Str.ofString "guess" then some (.bool lf) else m y := by
    funext y
    by_cases cm1 : y = PySem.Str.ofString "index"
    · rw [if_pos cm1, cm1, m1]
    rw [if_neg cm1]
    by_cases cm2 : y = PySem.Str.ofString "safe"
    · rw [if_pos cm2, cm2, m2]
    rw [if_neg cm2]
    by_cases cm3 : y = PySem.Str.ofString "action"
    · rw [if_pos cm3, cm3, m3]
    rw [if_neg cm3]
    by_cases cm4 : y = PySem.Str.ofString "guess"
    · rw [if_pos cm4, cm4, m4]
    rw [if_neg cm4]
  rw [e] at F
  clear e m1 m2 m3 m4
  obtain ⟨⟨q1, q2, q3, q4, q5⟩, q6, q7, q8, q9⟩ := six_ne N1 hc2 hc3 hc4
  have hz1 := inA_size b
  have hz2 := outA_size b
  have hz3 := smudge_size sm lf b
  have hsm2 : sm = .none ∨ sm = .bool true := by rw [hsm]; split <;> simp
  revert X; k_fill; intro X
  k_steps
  try unfold Stop
  rename Fr _ _ _ _ => kF
  rename News _ _ _ _ => kN
  refine cutSet (PySem.Str.ofString "lost") (fun v => v = .bool (lostB b)) kF kN ?a1 fun v1 h1 tk1 hv1 F1 N1 => ?_
  case a1 =>
    clear hQ hlf hsm hiv
    k_steps
    all_goals
      (rename Fr _ _ _ _ => pF
       rename News _ _ _ _ => pN
       refine set_end pF pN ?_ (by repeat (first | exact List.forall_mem_nil _ | refine List.forall_mem_cons.mpr ⟨by k_mem, ?_⟩))
       simp [lostB, *]; done)
  clear kF kN
  subst hv1
  try unfold Stop
  rename Fr _ _ _ _ => kF
  rename News _ _ _ _ => kN
  refine cutSet (PySem.Str.ofString "due") (fun v => ∃ t, v = ansV (due1 sf b) t) kF kN ?a2 fun v2 h2 tk2 hv2 F2 N2 => ?_
  case a2 =>
    clear hQ hlf hsm hiv
    k_steps
    all_goals
      (rename Fr _ _ _ _ => pF
       rename News _ _ _ _ => pN
       refine set_end pF pN ?_ (by repeat (first | exact List.forall_mem_nil _ | refine List.forall_mem_cons.mpr ⟨by k_mem, ?_⟩))
       first | exact ⟨_, by rw [due1_yes (by assumption) (by assumption)]; rfl⟩ | exact ⟨_, by rw [due1_no1 (by assumption)]; rfl⟩ | exact ⟨_, by rw [due1_no2 (by assumption)]; rfl⟩)
  clear kF kN
  obtain ⟨tv2, rfl⟩ := hv2
  try unfold Stop
  rename Fr _ _ _ _ => kF
  rename News _ _ _ _ => kN
  refine cutSet (PySem.Str.ofString "due") (fun v => ∃ t, v = ansV (due2 sf lf iv b) t) kF kN ?a3 fun v3 h3 tk3 hv3 F3 N3 => ?_
  case a3 =>
    clear hQ hlf hsm hiv
    k_steps
    all_goals
      (rename Fr _ _ _ _ => pF
       rename News _ _ _ _ => pN
       first
       | (refine set_end pF pN ?_ (by repeat (first | exact List.forall_mem_nil _ | refine List.forall_mem_cons.mpr ⟨by k_mem, ?_⟩))
          exact ⟨_, by rw [show due2 sf lf iv b = some b by simp [due2, *]]; rfl⟩)
       | (refine set_keep pF pN rfl ?_ (by repeat (first | exact List.forall_mem_nil _ | refine List.forall_mem_cons.mpr ⟨by k_mem, ?_⟩))
          exact ⟨tv2, by rw [show due2 sf lf iv b = due1 sf b by simp [due2, *]]⟩))
  clear kF kN
  obtain ⟨tv3, rfl⟩ := hv3
  rw [show due2 sf lf iv b = cleanV sf iv' b by rw [hiv]; exact due_clean _ _ _ _] at F3
  k_steps
  unfold Stop
  rename Fr _ _ _ _ => kF
  rename News _ _ _ _ => kN
  refine' cutCell (a := L + 1 + 1 + 1 + 1) (smudgeV sm lf b) kF kN ?U ?hm ?a4 fun o4' t4 h4 tk4 ho4 F4 N4 => ?_
  case U => k_updF
  case hm => k_mem
  case a4 =>
    clear hQ hiv hz3
    cases ac
    all_goals first | exact absurd rfl hac | skip
    all_goals first | (have hl2 : lf = true := hlf) | (have hl2 : lf = false := hlf)
    all_goals first | (have hs2 : sm = .bool true := hsm) | (have hs2 : sm = .none := hsm)
    all_goals clear hlf hsm
    all_goals subst hl2
    all_goals dsimp only [Act.str] at kF
    all_goals k_steps
    all_goals
      (rename Fr _ _ _ _ => pF
       rename News _ _ _ _ => pN
       refine' cell_end pF pN ?ho ?e ?hs
       case ho => assumption
       case e => simp [smudgeV, *]
       case hs => (try dsimp only); repeat (first | exact List.forall_mem_nil _ | refine List.forall_mem_cons.mpr ⟨by k_mem, ?_⟩))
  clear kF kN
  k_steps
  all_goals
    (rename Fr _ _ _ _ => pF
     rename News _ _ _ _ => pN
     refine' fin_end hQ pF pN ?hm ?hX
     case hm => k_mem
     case hX => first | rfl | assumption)
end
section
theorem news_ne {h₀ h : Heap} {L a b : Addr} {oa ob : Obj} {v : Option Value} {news : List (Addr × Obj)} (N : News h₀ L h news) (ha : (a, oa) ∈ news) (hb : (b, ob) ∈ news) (hd : ob.data = .cell v) (hn : ∀ v, oa.data ≠ .cell v) : @Ne Nat a b := by
  intro e
  have e : a = b := e
  subst e
  have h1 := (N _ ha).1
  rw [(N _ hb).1] at h1
  have h2 := Option.some.inj h1
  subst h2
  exact hn v hd
theorem words16 : True := by
  k_with_none
  k_with "callWith ref" => (k_here; k_dflt (refine' callWith_K (by k_asm) (by k_is) ?_; k_whole))
  k_with "compareOp In bytes bytes" => (k_here; k_dflt (refine' in_J (by k_asm) (by k_asm) (by rfl) (by decide) ?_; k_whole); intro h' tk' F' N'; (try k_sweep))
  k_with "compareOp NotIn bytes bytes" => (k_here; k_dflt (refine' notin_J (by k_asm) (by k_asm) (by rfl) (by decide) ?_; k_whole); intro h' tk' F' N'; (try k_sweep))
  k_with "compareOp Eq none bytes" => (k_here; refine eq_none_bytes ?_)
  k_with "compareOp Eq bytes str" => (k_here; refine eq_bytes_str ?_)
  k_with "subscriptTail" => (k_here; (with_reducible show wpAny _ _ (subscriptTail _ (Expr.Slice _ _ none _) (Value.bytes _ _) (Value.ref _)) _ _ _); (with_reducible rename Fr _ _ _ _ => F'); (with_reducible rename News _ _ _ _ => N'); (refine slice_J (s := ⟨_, _, _, _, _⟩) F' N' (by constructor) (by constructor) (by first | omega | ((try simp only [List.size_toArray, List.length_cons, List.length_nil]); omega)) ?_); intro h' t' k' F' N' hz'; (try k_sweep))
  k_with "subscriptTail" => (k_here; (with_reducible show wpAny _ _ (subscriptTail _ _ (Value.bytes _ _) (Value.int _ _)) _ _ _); (refine item_J (by omega) (by omega) (by omega) ?_); intro t' k')
  k_with "getMethod bytes" => (k_here; first | refine method_replace ?_ | refine method_split ?_ | refine method_join ?_ | refine method_endswith ?_)
  k_with "call builtin:bytes.endswith" => (k_here; refine call_endswith ?_)
  k_with "call builtin:bytes.replace" => (k_here; refine replace_J (by omega) ?_; intro t' k')
  k_with "call builtin:bytes.split" => (k_here; k_dflt (refine' split_J (by omega) (by k_asm) (by k_asm) ?_; k_whole); intro l' vs' ps' h' k' hv' hps' hln' hsz' F' N' l1; (try k_sweep))
  k_with "binaryOp Add bytes bytes" => (k_here; (with_reducible show wpAny _ _ (binaryOp Operator.Add (Value.bytes _ _) (Value.bytes _ _)) _ _ _); (refine KBy.add_bytes (by (try simp only [List.size_toArray, List.length_cons, List.length_nil]); omega) ?_); intro t' k')
  k_with "InvEndN" => k_dflt kst_close
  k_with "compareOp In bytes ref" => (k_here; k_dflt (refine' in_tup_bytes (by exact News.isTup (by k_asm) (by k_mem)) (by repeat constructor) ?_))
  k_with "getMethod bytes" => (k_here; refine KBd.method ?_)
  k_with "call builtin:bytes.decode" => (k_here; refine call_decode_empty ?_; intro t' k')
  k_with "compareOp In str ref" => (k_here; (with_reducible show wpAny _ _ (compareOp CmpOp.In (Value.str _ _) (Value.ref 43)) _ _ _); k_dflt (refine' in_auto (by k_asm) (by k_asm) (by first | rfl | decide +kernel) ?_; k_whole))
  k_with "compareOp Is bytes bool" => (k_here; with_reducible refine is_bb ?_)
  k_with "compareOp Is none bool" => (k_here; with_reducible refine is_nb ?_)
  k_with "ite" => first | with_reducible refine ite_tt ?_ | with_reducible refine ite_ff ?_ | with_reducible refine ite_True_then ?_ | with_reducible refine ite_False_else ?_
  k_with "execs cons" => (k_here; (with_reducible show wpAny _ _ (execs (Stmt.Assign [PySem.Expr.Name (PySem.Str.ofString "within") _] _ _ :: _) _) _ _ _); refine Stop.go ?_)
  k_with "call ref" => (k_here; (with_reducible show wpAny _ _ (call (Value.ref 73) [Value.str (PySem.Str.ofString "binary") _, Value.bytes _ _, idxV _]) _ _ _); k_dflt (refine' c_ffa_bin _ _ _ _ _ _ _ _ _ _ _ _ _ _ _ _ _ _ _ (by k_asm) (by k_asm) (by k_asm) (by k_asm) (by k_asm) (by first | exact rfl | assumption) (by ktr_room) (by ktr_units) _ _ _ _ ?_; ); intro h' tk' F' N'; (try k_sweep))
  k_with "call ref" => (k_here; (with_reducible show wpAny _ _ (call (Value.ref 73) [Value.str (PySem.Str.ofString "text-input") _, Value.bytes _ _, idxV _]) _ _ _); k_dflt (refine' c_ffa_ti _ _ _ _ _ _ _ _ _ _ _ _ _ _ _ _ _ _ _ (by k_asm) (by k_asm) (by k_asm) (by k_asm) (by k_asm) (by first | exact rfl | assumption) (by ktr_room) (by ktr_units) _ _ _ _ ?_; ); intro x' d' k1' k2' k3' k4' k5' k6' h' tk' F' N'; (try k_sweep))
  k_with "call ref" => (k_here; (with_reducible show wpAny _ _ (call (Value.ref 73) [Value.str (PySem.Str.ofString "text-crlf") _, Value.bytes _ _, idxV _]) _ _ _); k_dflt (refine' c_ffa_tc _ _ _ _ _ _ _ _ _ _ _ _ _ _ _ _ _ _ _ (by k_asm) (by k_asm) (by k_asm) (by k_asm) (by k_asm) (by first | exact rfl | assumption) (by ktr_room) (by ktr_units) _ _ _ _ ?_; ); intro x' d' k1' k2' k3' k4' k5' k6' h' tk' F' N'; (try k_sweep))
  k_with "call ref" => (k_here; (with_reducible show wpAny _ _ (call (Value.ref 73) [Value.str (PySem.Str.ofString "auto-input") _, Value.bytes _ _, idxV _]) _ _ _); k_dflt (refine' c_ffa_ai _ _ _ _ _ _ _ _ _ _ _ _ _ _ _ _ _ _ _ (by k_asm) (by k_asm) (by k_asm) (by k_asm) (by k_asm) (by first | exact rfl | assumption) (by ktr_room) (by ktr_units) _ _ _ _ ?_; ); intro x' d' k1' k2' k3' k4' k5' k6' h' tk' F' N'; (try k_sweep))
  k_with "call ref" => (k_here; (with_reducible show wpAny _ _ (call (Value.ref 73) [Value.str (PySem.Str.ofString "auto-crlf") _, Value.bytes _ _, idxV _]) _ _ _); k_dflt (refine' c_ffa_ac _ _ _ _ _ _ _ _ _ _ _ _ _ _ _ _ _ _ _ (by k_asm) (by k_asm) (by k_asm) (by k_asm) (by k_asm) (by first | exact rfl | assumption) (by ktr_room) (by ktr_units) _ _ _ _ ?_; ); intro x' d' k1' k2' k3' k4' k5' k6' h' tk' F' N'; (try k_sweep))
  trivial
set_option maxRecDepth 100000 in
set_option maxHeartbeats 8000000 in
theorem law_tail3 {w : World} {p : Program} {loose : List Str} {mean : ExcName → Option Value} {mg mb : Str → Option Value} {fa : Addr} {h₀ : Heap} {L : Addr} {m : Str → Option Value} {s : Shared} {Q : Flow → Shared → Prop} {E : Value → Shared → Prop} {sc : Scope} {bd : List Stmt} {news : List (Addr × Obj)}
  {tsf tb ta : Tok} {o2 o3 o4 : Obj} {v3 v4 : Option Value} {sf b : Array UInt8} {iv : Option Bool} {ac : Act}
  (hbd : bd = lawB.drop 15) (hsc : sc = lawS) (B : Below callerA h₀ [] h₀) (F : Fr h₀ L s.heap m) (N : News h₀ L s.heap news) (X : (hd.heap_1 w.params).In h₀) (T : Top p loose mean mg mb h₀) (C : CodeHd h₀ 219 217)
  (k0 : ∀ q ∈ ([(L + 1 + 1 + 1 + 1, o4), (L + 1 + 1 + 1, o3), (L + 1 + 1, o2), (217, tabObj #[])] : List (Addr × Obj)), q ∈ news)
  (hc2 : o2.data = .cell (some (.bytes b tb))) (hc3 : o3.data = .cell v3) (hc4 : o4.data = .cell v4)
  (l0 : @LT.lt Nat _ 217 L) (hb : b.size ≤ 24)
  (m1 : m (PySem.Str.ofString "index") = some (idxV iv)) (m2 : m (PySem.Str.ofString "safe") = some (.bytes sf tsf)) (m3 : m (PySem.Str.ofString "action") = some (.str ac.str ta))
  (hS : Safe sf)
  (hQ : ∀ m' h' tk' ps', Fr h₀ L h' m' → News h₀ L h' [(217, tabObj ps')] → Q (.ret (.bool true)) { s with heap := h', toks := tk' }) :
  wpAny (model PySem.Challenge.rw_jh0007_01.row.prog w) (callerA.deeper (envOfC (PySem.Str.ofString "law") sc L fa (.ref 219))) (execs bd (envOfC (PySem.Str.ofString "law") sc L fa (.ref 219))) Q E s := by
  conv at hbd => rhs; whnf
  conv at hsc => rhs; whnf
  subst hbd hsc
  have N1 := fun q hq => N q (k0 q hq)
  replace N1 : News _ _ _ _ := N1
  clear N k0
  have e : m = fun y => if y = PySem.Str.ofString "index" then some (idxV iv) else if y = PySem.Str.ofString "safe" then some (.bytes sf tsf) else if y = PySem.Str.ofString "action" then some (.str ac.str ta) else m y := by
    funext y
    by_cases cm1 : y = PySem.Str.ofString "index"
    · rw [if_pos cm1, cm1, m1]
    rw [if_neg cm1]
    by_cases cm2 : y = PySem.Str.ofString "safe"
    · rw [if_pos cm2, cm2, m2]
    rw [if_neg cm2]
    by_cases cm3 : y = PySem.Str.ofString "action"
    · rw [if_pos cm3, cm3, m3]
    rw [if_neg cm3]
  rw [e] at F
  clear e m1 m2 m3
  revert X; k_fill; intro X
  cases ac
  all_goals dsimp only [Act.str] at F
  all_goals k_steps
  all_goals first
    | (rename Fr _ _ _ _ => kF
       rename News _ _ _ _ => kN
       exact hQ _ _ _ _ kF (fun q hq => kN q (by rw [List.mem_singleton.mp hq]; k_mem)))
    | (unfold Stop
       rename Fr _ _ _ _ => kF
       rename News _ _ _ _ => kN
       first
       | exact law_tail4 (ac := .ti) (iv := iv) (o4 := o4) (o2 := o2) rfl rfl B kF kN X T C (by repeat (first | exact List.forall_mem_nil _ | refine List.forall_mem_cons.mpr ⟨by k_mem, ?_⟩)) hc2 (by assumption) hc4 l0 hb rfl rfl rfl rfl hS (by intro h; cases h) rfl (by decide +kernel) rfl rfl hQ
       | exact law_tail4 (ac := .tc) (iv := iv) (o4 := o4) (o2 := o2) rfl rfl B kF kN X T C (by repeat (first | exact List.forall_mem_nil _ | refine List.forall_mem_cons.mpr ⟨by k_mem, ?_⟩)) hc2 (by assumption) hc4 l0 hb rfl rfl rfl rfl hS (by intro h; cases h) rfl (by decide +kernel) rfl rfl hQ
       | exact law_tail4 (ac := .ai) (iv := iv) (o4 := o4) (o2 := o2) rfl rfl B kF kN X T C (by repeat (first | exact List.forall_mem_nil _ | refine List.forall_mem_cons.mpr ⟨by k_mem, ?_⟩)) hc2 (by assumption) hc4 l0 hb rfl rfl rfl rfl hS (by intro h; cases h) rfl (by decide +kernel) rfl rfl hQ
       | exact law_tail4 (ac := .ac) (iv := iv) (o4 := o4) (o2 := o2) rfl rfl B kF kN X T C (by repeat (first | exact List.forall_mem_nil _ | refine List.forall_mem_cons.mpr ⟨by k_mem, ?_⟩)) hc2 (by assumption) hc4 l0 hb rfl rfl rfl rfl hS (by intro h; cases h) rfl (by decide +kernel) rfl rfl hQ)
end
section
def SmuMark : Prop := True
theorem words17 : True := by
  k_with_none
  k_with "callWith ref" => (k_here; k_dflt (refine' callWith_K (by k_asm) (by k_is) ?_; k_whole))
  k_with "compareOp In bytes bytes" => (k_here; k_dflt (refine' in_J (by k_asm) (by k_asm) (by rfl) (by decide) ?_; k_whole); intro h' tk' F' N'; (try k_sweep))
  k_with "compareOp NotIn bytes bytes" => (k_here; k_dflt (refine' notin_J (by k_asm) (by k_asm) (by rfl) (by decide) ?_; k_whole); intro h' tk' F' N'; (try k_sweep))
  k_with "compareOp Eq none bytes" => (k_here; refine eq_none_bytes ?_)
  k_with "compareOp Eq bytes str" => (k_here; refine eq_bytes_str ?_)
  k_with "subscriptTail" => (k_here; (with_reducible show wpAny _ _ (subscriptTail _ (Expr.Slice _ _ none _) (Value.bytes _ _) (Value.ref _)) _ _ _); (with_reducible rename Fr _ _ _ _ => F'); (with_reducible rename News _ _ _ _ => N'); (refine slice_J (s := ⟨_, _, _, _, _⟩) F' N' (by constructor) (by constructor) (by first | omega | ((try simp only [List.size_toArray, List.length_cons, List.length_nil]); omega)) ?_); intro h' t' k' F' N' hz'; (try k_sweep))
  k_with "subscriptTail" => (k_here; (with_reducible show wpAny _ _ (subscriptTail _ _ (Value.bytes _ _) (Value.int _ _)) _ _ _); (refine item_J (by omega) (by omega) (by omega) ?_); intro t' k')
  k_with "getMethod bytes" => (k_here; first | refine method_replace ?_ | refine method_split ?_ | refine method_join ?_ | refine method_endswith ?_)
  k_with "call builtin:bytes.endswith" => (k_here; refine call_endswith ?_)
  k_with "call builtin:bytes.replace" => (k_here; refine replace_J (by omega) ?_; intro t' k')
  k_with "call builtin:bytes.split" => (k_here; k_dflt (refine' split_J (by omega) (by k_asm) (by k_asm) ?_; k_whole); intro l' vs' ps' h' k' hv' hps' hln' hsz' F' N' l1; (try k_sweep))
  k_with "binaryOp Add bytes bytes" => (k_here; (with_reducible show wpAny _ _ (binaryOp Operator.Add (Value.bytes _ _) (Value.bytes _ _)) _ _ _); (refine KBy.add_bytes (by (try simp only [List.size_toArray, List.length_cons, List.length_nil]); omega) ?_); intro t' k')
  k_with "InvEndN" => k_dflt kst_close
  k_with "compareOp In bytes ref" => (k_here; k_dflt (refine' in_tup_bytes (by exact News.isTup (by k_asm) (by k_mem)) (by repeat constructor) ?_))
  k_with "getMethod bytes" => (k_here; refine KBd.method ?_)
  k_with "call builtin:bytes.decode" => (k_here; refine call_decode_empty ?_; intro t' k')
  k_with "compareOp In str ref" => (k_here; (with_reducible show wpAny _ _ (compareOp CmpOp.In (Value.str _ _) (Value.ref 43)) _ _ _); k_dflt (refine' in_auto (by k_asm) (by k_asm) (by first | rfl | decide +kernel) ?_; k_whole))
  k_with "compareOp Is bytes bool" => (k_here; with_reducible refine is_bb ?_)
  k_with "compareOp Is none bool" => (k_here; with_reducible refine is_nb ?_)
  k_with "ite" => first | with_reducible refine ite_tt ?_ | with_reducible refine ite_ff ?_ | with_reducible refine ite_True_then ?_ | with_reducible refine ite_False_else ?_
  trivial
theorem c_act2 (w : World) {p : Program} {loose : List Str} {mean : ExcName → Option Value} {mg mb : Str → Option Value}
  (dp un : Nat) (gd : Option (List Code)) (cn : Str) (cs : Scope) (a : Addr) (ccd : Value) (cl : List (Str × Addr)) (outer : List Env) (A₀ : Around) (base h₀ : Heap) (L : Addr) (m : Str → Option Value) (news : List (Addr × Obj)) (s : Shared) (Q E : Value → Shared → Prop)
  (B : Below A₀ base outer h₀) (F : Fr h₀ L s.heap m) (X : (hd.heap_1 w.params).In h₀) (N : News h₀ L s.heap news) (T : Top p loose mean mg mb h₀) (hk : cs.kind = .function) (hdp : dp + 6 < recursionLimit) (hun : un + 60 < cLine)
  (td : Addr) (o : Obj) (a1 a2 : AV) (e : EV) (nv : Str) (wb : Array UInt8) (t1 t2 t3 tn tw : Tok) (hW : Wish wb) (hd : o.IsDictOf (bnKind PySem.Challenge.rw_jh0007_01.row.prog w) (addO (addO (addO [] kText (a1.opt t1)) kCrlf (a2.opt t2)) kEol (e.opt t3))) (hm : (td, o) ∈ news) (lo : (td == sysModules) = false)
  (hret : ∀ (t : Tok) (h' : Heap) (tk' : Nat), Fr h₀ L h' m → News h₀ L h' news → Q (.str (actF (baseA a1 a2) e nv wb).str t) { s with heap := h', toks := tk' }) :
  wpAny (model PySem.Challenge.rw_jh0007_01.row.prog w) (ktrTop dp un gd cn cs L a ccd cl outer) (call (.ref 208) [.ref td, .str nv tn, .bytes wb tw]) Q E s :=
  c_act w dp un gd cn cs a ccd cl outer A₀ base h₀ L m news s Q E B F X N T hk hdp hun td o _ a1 a2 e nv wb t1 t2 t3 tn tw hW hd hm lo ((told_text _ _ _).trans (AV.opt_getD _ _)) ((told_crlf _ _ _).trans (AV.opt_getD _ _)) ((told_eol _ _ _).trans (EV.opt_getD _ _)) hret
theorem c_res2 (w : World) {p : Program} {loose : List Str} {mean : ExcName → Option Value} {mg mb : Str → Option Value}
  (dp un : Nat) (gd : Option (List Code)) (cn : Str) (cs : Scope) (a : Addr) (ccd : Value) (cl : List (Str × Addr)) (outer : List Env) (A₀ : Around) (base h₀ : Heap) (L : Addr) (m : Str → Option Value) (news : List (Addr × Obj)) (s : Shared) (Q E : Value → Shared → Prop)
  (B : Below A₀ base outer h₀) (F : Fr h₀ L s.heap m) (X : (hd.heap_1 w.params).In h₀) (N : News h₀ L s.heap news) (T : Top p loose mean mg mb h₀) (hk : cs.kind = .function) (hdp : dp + 6 < recursionLimit) (hun : un + 60 < cLine)
  (td : Addr) (o : Obj) (a1 a2 : AV) (e : EV) (nv : Str) (wb : Array UInt8) (t1 t2 t3 tn tw : Tok) (hd : o.IsDictOf (bnKind PySem.Challenge.rw_jh0007_01.row.prog w) (addO (addO (addO [] kText (a1.opt t1)) kCrlf (a2.opt t2)) kEol (e.opt t3))) (hm : (td, o) ∈ news) (lo : (td == sysModules) = false)
  (hret : ∀ (t : Tok) (h' : Heap) (tk' : Nat), Fr h₀ L h' m → News h₀ L h' news → Q (.str (actF (baseA a1 a2) e nv wb).str t) { s with heap := h', toks := tk' }) :
  wpAny (model PySem.Challenge.rw_jh0007_01.row.prog w) (ktrTop dp un gd cn cs L a ccd cl outer) (call (.ref 65) [.ref td, .str nv tn, .bytes wb tw]) Q E s :=
  c_res w dp un gd cn cs a ccd cl outer A₀ base h₀ L m news s Q E B F X N T hk hdp hun td o _ a1 a2 e nv wb t1 t2 t3 tn tw hd hm lo ((told_text _ _ _).trans (AV.opt_getD _ _)) ((told_crlf _ _ _).trans (AV.opt_getD _ _)) ((told_eol _ _ _).trans (EV.opt_getD _ _)) hret
theorem ne_str_same {prog : Program} {w : World} {A : Around} {E : Value → Shared → Prop} {s : Shared} {x : Str} {t u : Tok} {Q : Value → Shared → Prop} (h : Q (.bool false) s) : wpAny (model prog w) A (compareOp .NotEq (.str x t) (.str x u)) Q E s :=
  ne_str (by simpa using h)
theorem ne_in_out {prog : Program} {w : World} {A : Around} {E : Value → Shared → Prop} {s : Shared} {b : Array UInt8} {t u : Tok} {Q : Value → Shared → Prop} (h : Q (.bool false) s) : wpAny (model prog w) A (compareOp .NotEq (.bytes (inA (outA b)) t) (.bytes (inA b) u)) Q E s := by
  rw [inA_outA]; exact ne_bytes_same h
theorem smu_yes : smuW #[116, 114, 117, 101] = .bool true := rfl
theorem smu_no : smuW #[102, 97, 108, 115, 101] = .none := rfl
theorem smu_inp : smuW #[105, 110, 112, 117, 116] = .none := rfl
theorem cleW_yes : cleW #[116, 114, 117, 101] = .bool true := rfl
theorem cleW_no : cleW #[102, 97, 108, 115, 101] = .none := rfl
theorem cleW_inp : cleW #[105, 110, 112, 117, 116] = .bool true := rfl
theorem words18 : True := by
  k_with_none
  k_with "callWith ref" => (k_here; k_dflt (refine' callWith_K (by k_asm) (by k_is) ?_; k_whole))
  k_with "compareOp In bytes bytes" => (k_here; k_dflt (refine' in_J (by k_asm) (by k_asm) (by rfl) (by decide) ?_; k_whole); intro h' tk' F' N'; (try k_sweep))
  k_with "compareOp NotIn bytes bytes" => (k_here; k_dflt (refine' notin_J (by k_asm) (by k_asm) (by rfl) (by decide) ?_; k_whole); intro h' tk' F' N'; (try k_sweep))
  k_with "compareOp Eq none bytes" => (k_here; refine eq_none_bytes ?_)
  k_with "compareOp Eq bytes str" => (k_here; refine eq_bytes_str ?_)
  k_with "subscriptTail" => (k_here; (with_reducible show wpAny _ _ (subscriptTail _ (Expr.Slice _ _ none _) (Value.bytes _ _) (Value.ref _)) _ _ _); (with_reducible rename Fr _ _ _ _ => F'); (with_reducible rename News _ _ _ _ => N'); (refine slice_J (s := ⟨_, _, _, _, _⟩) F' N' (by constructor) (by constructor) (by first | omega | ((try simp only [List.size_toArray, List.length_cons, List.length_nil]); omega)) ?_); intro h' t' k' F' N' hz'; (try k_sweep))
  k_with "subscriptTail" => (k_here; (with_reducible show wpAny _ _ (subscriptTail _ _ (Value.bytes _ _) (Value.int _ _)) _ _ _); (refine item_J (by omega) (by omega) (by omega) ?_); intro t' k')
  k_with "getMethod bytes" => (k_here; first | refine method_replace ?_ | refine method_split ?_ | refine method_join ?_ | refine method_endswith ?_)
  k_with "call builtin:bytes.endswith" => (k_here; refine call_endswith ?_)
  k_with "call builtin:bytes.replace" => (k_here; refine replace_J (by omega) ?_; intro t' k')
  k_with "call builtin:bytes.split" => (k_here; k_dflt (refine' split_J (by omega) (by k_asm) (by k_asm) ?_; k_whole); intro l' vs' ps' h' k' hv' hps' hln' hsz' F' N' l1; (try k_sweep))
  k_with "binaryOp Add bytes bytes" => (k_here; (with_reducible show wpAny _ _ (binaryOp Operator.Add (Value.bytes _ _) (Value.bytes _ _)) _ _ _); (refine KBy.add_bytes (by (try simp only [List.size_toArray, List.length_cons, List.length_nil]); omega) ?_); intro t' k')
  k_with "InvEndN" => k_dflt kst_close
  k_with "compareOp In bytes ref" => (k_here; k_dflt (refine' in_tup_bytes (by exact News.isTup (by k_asm) (by k_mem)) (by repeat constructor) ?_))
  k_with "getMethod bytes" => (k_here; refine KBd.method ?_)
  k_with "call builtin:bytes.decode" => (k_here; refine call_decode_empty ?_; intro t' k')
  k_with "compareOp In str ref" => (k_here; (with_reducible show wpAny _ _ (compareOp CmpOp.In (Value.str _ _) (Value.ref 43)) _ _ _); k_dflt (refine' in_auto (by k_asm) (by k_asm) (by first | rfl | decide +kernel) ?_; k_whole))
  k_with "compareOp Is bytes bool" => (k_here; with_reducible refine is_bb ?_)
  k_with "compareOp Is none bool" => (k_here; with_reducible refine is_nb ?_)
  k_with "ite" => first | with_reducible refine ite_tt ?_ | with_reducible refine ite_ff ?_ | with_reducible refine ite_True_then ?_ | with_reducible refine ite_False_else ?_
  k_with "compareOp NotEq str str" => (k_here; with_reducible refine ne_str_same ?_)
  k_with "compareOp NotEq bytes bytes" => (k_here; first | with_reducible refine ne_bytes_same ?_ | with_reducible refine ne_in_out ?_)
  k_with "compareOp IsNot" => (k_here; first | rw [smu_yes] | rw [smu_no] | rw [smu_inp] | rw [cleW_yes] | rw [cleW_no] | rw [cleW_inp])
  k_with "execs cons" => (k_here; (with_reducible show wpAny _ _ (execs (Stmt.Assign [PySem.Expr.Name (PySem.Str.ofString "kept") _] _ _ :: _) _) _ _ _); refine Stop.go ?_)
  k_with "execs cons" => (k_here; (with_reducible show wpAny _ _ (execs (Stmt.If (PySem.Expr.Compare (PySem.Expr.Call (PySem.Expr.Name (PySem.Str.ofString "get_smudge_filter") _) _ _ _) _ _ _) _ _ _ :: _) _) _ _ _); (fail_if_success (with_reducible rename SmuMark => hMark)); refine Stop.go ?_)
  k_with "call ref" => (k_here; (with_reducible show wpAny _ _ (call (Value.ref 125) [Value.bytes _ _]) _ _ _); k_dflt (refine' c_c2l _ _ _ _ _ _ _ _ _ _ _ _ _ _ _ _ _ _ _ (by k_asm) (by k_asm) (by k_asm) (by k_asm) (by k_asm) (by first | exact rfl | assumption) (by ktr_room) (by ktr_units) _ _ (by omega) ?_); intro t' h' tk' F' N'; (try k_sweep))
  k_with "call ref" => (k_here; (with_reducible show wpAny _ _ (call (Value.ref 132) [Value.bytes _ _]) _ _ _); k_dflt (refine' c_l2c _ _ _ _ _ _ _ _ _ _ _ _ _ _ _ _ _ _ _ (by k_asm) (by k_asm) (by k_asm) (by k_asm) (by k_asm) (by first | exact rfl | assumption) (by ktr_room) (by ktr_units) _ _ (by omega) ?_); intro t' h' tk' F' N'; (try k_sweep))
  k_with "call ref" => (k_here; (with_reducible show wpAny _ _ (call (Value.ref 187) [Value.bytes _ _]) _ _ _); k_dflt (refine' c_in _ _ _ _ _ _ _ _ _ _ _ _ _ _ _ _ _ _ _ (by k_asm) (by k_asm) (by k_asm) (by k_asm) (by k_asm) (by first | exact rfl | assumption) (by ktr_room) (by ktr_units) _ _ (by omega) ?_); intro t' h' tk' F' N'; (try k_sweep))
  k_with "call ref" => (k_here; (with_reducible show wpAny _ _ (call (Value.ref 194) [Value.bytes _ _]) _ _ _); k_dflt (refine' c_out _ _ _ _ _ _ _ _ _ _ _ _ _ _ _ _ _ _ _ (by k_asm) (by k_asm) (by k_asm) (by k_asm) (by k_asm) (by first | exact rfl | assumption) (by ktr_room) (by ktr_units) _ _ (by omega) ?_); intro t' h' tk' F' N'; (try k_sweep))
  k_with "call ref" => (k_here; (with_reducible show wpAny _ _ (call (Value.ref 208) [Value.ref _, Value.str _ _, Value.bytes _ _]) _ _ _); k_dflt (refine' c_act2 _ _ _ _ _ _ _ _ _ _ _ _ _ _ _ _ _ _ _ (by k_asm) (by k_asm) (by k_asm) (by k_asm) (by k_asm) (by first | exact rfl | assumption) (by ktr_room) (by ktr_units) _ _ _ _ _ _ _ _ _ _ _ _ (by assumption) (by assumption) (by k_mem) (by assumption) ?_); intro t' h' tk' F' N'; (try k_sweep))
  k_with "call ref" => (k_here; (with_reducible show wpAny _ _ (call (Value.ref 65) [Value.ref _, Value.str _ _, Value.bytes _ _]) _ _ _); k_dflt (refine' c_res2 _ _ _ _ _ _ _ _ _ _ _ _ _ _ _ _ _ _ _ (by k_asm) (by k_asm) (by k_asm) (by k_asm) (by k_asm) (by first | exact rfl | assumption) (by ktr_room) (by ktr_units) _ _ _ _ _ _ _ _ _ _ _ _ (by assumption) (by k_mem) (by assumption) ?_); intro t' h' tk' F' N'; (try k_sweep))
  k_with "call ref" => (k_here; (with_reducible show wpAny _ _ (call (Value.ref 147) [_, Value.bytes _ _]) _ _ _); k_dflt (refine' c_gs _ _ _ _ _ _ _ _ _ _ _ _ _ _ _ _ _ _ _ (by k_asm) (by k_asm) (by k_asm) (by k_asm) (by k_asm) (by first | exact rfl | assumption) (by ktr_room) (by ktr_units) _ _ _ ?_; ); intro h' tk' F' N'; (try k_sweep))
  k_with "call ref" => (k_here; (with_reducible show wpAny _ _ (call (Value.ref 154) [_, Value.bytes _ _]) _ _ _); k_dflt (refine' c_gc _ _ _ _ _ _ _ _ _ _ _ _ _ _ _ _ _ _ _ (by k_asm) (by k_asm) (by k_asm) (by k_asm) (by k_asm) (by first | exact rfl | assumption) (by ktr_room) (by ktr_units) _ _ _ ?_; ); intro h' tk' F' N'; (try k_sweep))
  trivial
set_option maxRecDepth 100000 in
set_option maxHeartbeats 8000000 in
theorem law_tail2 {w : World} {p : Program} {loose : List Str} {mean : ExcName → Option Value} {mg mb : Str → Option Value} {fa : Addr} {h₀ : Heap} {L : Addr} {m : Str → Option Value} {s : Shared} {Q : Flow → Shared → Prop} {E : Value → Shared → Prop} {sc : Scope} {bd : List Stmt} {news : List (Addr × Obj)}
  {td : Addr} {tn tw tsf ta1 ta2 te tb : Tok} {oT o2 o3 o4 : Obj} {v3 v4 : Option Value} {nv : Str} {wb sf b : Array UInt8} {iv : Option Bool} {a1 a2 : AV} {e : EV}
  (hbd : bd = lawB.drop 10) (hsc : sc = lawS) (B : Below callerA h₀ [] h₀) (F : Fr h₀ L s.heap m) (N : News h₀ L s.heap news) (X : (hd.heap_1 w.params).In h₀) (T : Top p loose mean mg mb h₀) (C : CodeHd h₀ 219 217)
  (k0 : ∀ q ∈ ([(td, oT), (L + 1 + 1 + 1 + 1, o4), (L + 1 + 1 + 1, o3), (L + 1 + 1, o2), (217, tabObj #[])] : List (Addr × Obj)), q ∈ news)
  (hc2 : o2.data = .cell (some (.bytes b tb))) (hc3 : o3.data = .cell v3) (hc4 : o4.data = .cell v4)
  (l0 : @LT.lt Nat _ 217 L) (l3 : @LT.lt Nat _ (L + 1 + 1 + 1 + 1) td) (hb : b.size ≤ 24)
  (m1 : m (PySem.Str.ofString "index") = some (idxV iv)) (m2 : m (PySem.Str.ofString "safe") = some (.bytes sf tsf)) (m3 : m (PySem.Str.ofString "wish") = some (.bytes wb tw)) (m4 : m (PySem.Str.ofString "native") = some (.str nv tn)) (m5 : m (PySem.Str.ofString "told") = some (.ref td))
  (hW : Wish wb) (hS : Safe sf) (lo : (td == sysModules) = false)
  (hd' : oT.IsDictOf (bnKind PySem.Challenge.rw_jh0007_01.row.prog w) (addO (addO (addO [] kText (a1.opt ta1)) kCrlf (a2.opt ta2)) kEol (e.opt te)))
  (hQ : ∀ m' h' tk' ps', Fr h₀ L h' m' → News h₀ L h' [(217, tabObj ps')] → Q (.ret (.bool true)) { s with heap := h', toks := tk' }) :
  wpAny (model PySem.Challenge.rw_jh0007_01.row.prog w) (callerA.deeper (envOfC (PySem.Str.ofString "law") sc L fa (.ref 219))) (execs bd (envOfC (PySem.Str.ofString "law") sc L fa (.ref 219))) Q E s := by
  conv at hbd => rhs; whnf
  conv at hsc => rhs; whnf
  subst hbd hsc
  have N1 := fun q hq => N q (k0 q hq)
  replace N1 : News _ _ _ _ := N1
  clear N k0
  have e : m = fun y => if y = PySem.Str.ofString "index" then some (idxV iv) else if y = PySem.Str.ofString "safe" then some (.bytes sf tsf) else if y = PySem.Str.ofString "wish" then some (.bytes wb tw) else if y = PySem.Str.ofString "native" then some (.str nv tn) else if y = PySem.Str.ofString "told" then some (.ref td) else m y := by
    funext y
    by_cases cm1 : y = PySem.Str.ofString "index"
    · rw [if_pos cm1, cm1, m1]
    rw [if_neg cm1]
    by_cases cm2 : y = PySem.Str.ofString "safe"
    · rw [if_pos cm2, cm2, m2]
    rw [if_neg cm2]
    by_cases cm3 : y = PySem.Str.ofString "wish"
    · rw [if_pos cm3, cm3, m3]
    rw [if_neg cm3]
    by_cases cm4 : y = PySem.Str.ofString "native"
    · rw [if_pos cm4, cm4, m4]
    rw [if_neg cm4]
    by_cases cm5 : y = PySem.Str.ofString "told"
    · rw [if_pos cm5, cm5, m5]
    rw [if_neg cm5]
  rw [e] at F
  clear e m1 m2 m3 m4 m5
  have hz1 := inA_size b
  have hz2 := outA_size b
  revert X; k_fill; intro X
  k_steps
  all_goals unfold Stop
  have hMark : SmuMark := trivial
  clear hd' lo
  revert hW
  generalize (actF (baseA a1 a2) e nv wb) = ac at *
  intro hW
  cases hW
  all_goals k_steps
  all_goals
    unfold Stop
    rename Fr _ _ _ _ => kF
    rename News _ _ _ _ => kN
    exact law_tail3 (o4 := o4) (o3 := o3) (o2 := o2) rfl rfl B kF kN X T C (by repeat (first | exact List.forall_mem_nil _ | refine List.forall_mem_cons.mpr ⟨by k_mem, ?_⟩)) hc2 hc3 hc4 l0 hb rfl rfl rfl hS hQ
end
section
open PyProof.Rows.LCg
def PiecePost (h₀ : Heap) (L : Addr) (m : Str → Option Value) (s : Shared) (st l : Addr) (seed place : Int) (n2 : List (Addr × Obj)) (nf : Obj → List (Addr × Obj)) (y : Value) (s₂ : Shared) : Prop :=
  ∃ (b : Array UInt8) (t u1 u2 : Tok) (n1 : Nat) (h' : Heap) (tk' : Nat), y = .bytes b t ∧ b.size ≤ 2 ∧ s₂ = { s with heap := h', toks := tk' } ∧ Fr h₀ L h' m ∧ News h₀ L h' (n2 ++ nf (PySem.W.listOf [.ref l, .int (place + 1) u1, .int seed u2].toArray n1))
theorem piece_end {h₀ h' : Heap} {L : Addr} {m : Str → Option Value} {s : Shared} {st l : Addr} {seed place : Int} {n2 news : List (Addr × Obj)} {nf : Obj → List (Addr × Obj)} {b : Array UInt8} {t u1 u2 : Tok} {n1 : Nat} {tk' : Nat} (hb : b.size ≤ 2) (F : Fr h₀ L h' m) (N : News h₀ L h' news)
    (hs : ∀ q ∈ (n2 ++ nf (PySem.W.listOf [.ref l, .int (place + 1) u1, .int seed u2].toArray n1)), q ∈ news) : PiecePost h₀ L m s st l seed place n2 nf (.bytes b t) { s with heap := h', toks := tk' } :=
  ⟨b, t, u1, u2, n1, h', tk', rfl, hb, rfl, F, fun q hq => N q (hs q hq)⟩
theorem bytes_snoc : ∀ {vs : List Value} {ps : List (Array UInt8)} {b : Array UInt8} {t : Tok}, BytesAre vs ps → BytesAre (vs ++ [.bytes b t]) (ps ++ [b])
  | _, _, _, _, .nil => .cons .nil
  | _, _, _, _, .cons h => .cons (bytes_snoc h)
theorem comp_ind {prog : Program} {w : World} {A : Around} {h₀ : Heap} {L : Addr} {m : Str → Option Value} {env : Env} {elt : PySem.Expr} {x : Str} {scope : Scope} {cl : List (Str × Addr)} {s : Shared} {P : Nat → Value → Prop} {Fin : List Value → List (Addr × Obj) → Prop}
    {st l : Addr} {seed p0 : Int} {nf : Obj → List (Addr × Obj)} {n : Nat} (hp0 : 0 ≤ p0) (hn : p0 + (n : Int) < 90) (hoff : ∀ I C D o o', Off3 I C D (nf o) → Off3 I C D (nf o'))
    (step : ∀ (place : Int) (u1 u2 : Tok) (n1 : Nat) v I oI C oC D m₂ h tk (E' : Value → Shared → Prop) ys, 0 ≤ place → place < 90 → P (place - p0).toNat v → NsObj oC m₂ → m₂ x = some v → Fr h₀ L h m →
      News h₀ L h ((I, oI) :: (C, oC) :: (D, lst ys) :: nf (PySem.W.listOf [.ref l, .int place u1, .int seed u2].toArray n1)) → Off3 I C D (nf (PySem.W.listOf [.ref l, .int place u1, .int seed u2].toArray n1)) → ((@Ne Nat I C) ∧ (@Ne Nat I D) ∧ (@Ne Nat C D)) →
      wpAny (model prog w) A (eval elt (compEnvC scope cl C env)) (PiecePost h₀ L m s st l seed place [(I, oI), (C, oC), (D, lst ys)] nf) E' { s with heap := h, toks := tk })
    (fin : ∀ ys ps p1 u1 u2 n1, BytesAre ys ps → (∀ p ∈ ps, p.size ≤ 2) → ps.length = n → Fin ys (nf (PySem.W.listOf [.ref l, .int p1 u1, .int seed u2].toArray n1))) :
    ∀ (k i : Nat) (ys : List Value) (ps : List (Array UInt8)) (pl : Int) (u1 u2 : Tok) (n1 : Nat), pl = p0 + (i : Int) → i + k = n → BytesAre ys ps → (∀ p ∈ ps, p.size ≤ 2) → ps.length = i →
      CompRest prog w A h₀ L m env elt x scope cl s (fun _ => True) P Fin k i ys (nf (PySem.W.listOf [.ref l, .int pl u1, .int seed u2].toArray n1))
  | 0, i, ys, ps, pl, u1, u2, n1, hpl, hi, hv, hp, hl => fin ys ps _ u1 u2 n1 hv hp (by omega)
  | k + 1, i, ys, ps, pl, u1, u2, n1, hpl, hi, hv, hp, hl => by
    subst hpl
    refine CompRest.succ fun v I oI C oC D m₂ h tk E' hP hC hx F N off ne => ?_
    refine wpAny_mono (step (p0 + (i : Int)) u1 u2 n1 v I oI C oC D m₂ h tk E' ys (by omega) (by omega) (by rw [show (p0 + (i : Int) - p0).toNat = i by omega]; exact hP) hC hx F N off ne) (fun y s₂ hy => ?_) fun _ _ e => e
    obtain ⟨b, t, u1', u2', n1', h', tk', rfl, hb, rfl, F', N'⟩ := hy
    refine CompEnd.intro F' N' (nf _) (fun q hq => hq) (hoff _ _ _ _ _ off) trivial ?_
    refine comp_ind hp0 hn hoff step fin k (i + 1) (ys ++ [.bytes b t]) (ps ++ [b]) (p0 + (i : Int) + 1) u1' u2' n1' (by omega) (by omega) (bytes_snoc hv) (fun q hq => ?_) (by simp [hl])
    rcases List.mem_append.mp hq with hq | hq
    · exact hp q hq
    · rw [List.mem_singleton.mp hq]; exact hb
theorem joined_size : ∀ (ps : List (Array UInt8)), (∀ p ∈ ps, p.size ≤ 2) → (joinL [] (ps.map (·.toList))).length ≤ 2 * ps.length
  | [], _ => by simp [joinL]
  | [p], h => by
    have := h p (by simp)
    simp [joinL]; omega
  | p :: q :: r, h => by
    have h1 := h p (by simp)
    have ih := joined_size (q :: r) fun x hx => h x (List.mem_cons_of_mem _ hx)
    rw [List.map_cons, joinL_cons _ _ (by simp)]
    simp only [List.length_append, List.length_nil, List.length_cons, Array.length_toList] at ih ⊢
    omega
theorem joined24 {ps : List (Array UInt8)} {n : Nat} (h : ∀ p ∈ ps, p.size ≤ 2) (hl : ps.length = n) (hn : n ≤ 12) : (Builtin.Bytes.joined #[] ps).size ≤ 24 := by
  have e := joined_eq #[] ps
  have := joined_size ps h
  have h2 : (Builtin.Bytes.joined #[] ps).toList.length = (Builtin.Bytes.joined #[] ps).size := Array.length_toList
  rw [← h2, e]
  have h3 : (#[] : Array UInt8).toList = [] := rfl
  rw [h3]; omega
theorem fold_sizes : ∀ (bs : List (Array UInt8)) (k : Nat), (∀ p ∈ bs, p.size ≤ 2) → bs.foldl (fun x y => x + y.size) k ≤ k + 2 * bs.length
  | [], k, _ => by simp
  | p :: r, k, h => by
    have h1 := h p (by simp)
    have ih := fold_sizes r (k + p.size) fun x hx => h x (List.mem_cons_of_mem _ hx)
    simp only [List.foldl_cons, List.length_cons] at ih ⊢
    omega
theorem join_data {prog : Program} {w : World} {A : Around} {E : Value → Shared → Prop} {s : Shared} {h₀ : Heap} {L l : Addr} {news : List (Addr × Obj)} {vs : List Value} {bs : List (Array UInt8)} {n k : Nat} {t : Tok} {Q : Value → Shared → Prop} (N : News h₀ L s.heap news) (hm : (l, PySem.W.listOf vs.toArray n) ∈ news) (hv : BytesAre vs bs)
    (hp : ∀ p ∈ bs, p.size ≤ 2) (hl : bs.length = k) (hk : k ≤ 12) (h : ∀ t' tk (c : Array UInt8), c.size ≤ 24 → Q (.bytes c t') { s with toks := tk }) : wpAny (model prog w) A (call (.builtin "bytes.join") [.bytes #[] t, .ref l]) Q E s := by
  have hz := joined24 hp hl hk
  refine call_join N hm hv (by rw [sizeLine_eq]; omega) (tooLong_no ?_) fun t' tk => h t' tk _ hz
  have e : (#[] : Array UInt8).size * (bs.toArray.size - 1) = 0 := by simp
  rw [e, List.foldl_toArray]
  have := fold_sizes bs 0 hp
  omega
theorem range_ok {r : Int} (h0 : 0 ≤ r) (h1 : r < 13) : Builtin.Range.small 0 r 1 = true ∧ Builtin.Range.rangeSize 0 r 1 = ((r.toNat : Nat) : Int) := by
  obtain ⟨n, rfl⟩ := Int.eq_ofNat_of_zero_le h0
  have hn : n < 13 := by omega
  clear h0 h1
  revert n
  decide
end
section
local macro_rules | `(tactic| k_ne) => `(tactic| (refine neN ?_; first | with_reducible assumption | (refine Ne.symm ?_; with_reducible assumption) | (refine Nat.ne_of_gt ?_; with_reducible assumption) | (refine Nat.ne_of_lt ?_; with_reducible assumption)))
theorem words19 : True := by
  k_with_none
  k_with "callWith ref" => (k_here; k_dflt (refine' callWith_K (by k_asm) (by k_is) ?_; k_whole))
  k_with "compareOp In bytes bytes" => (k_here; k_dflt (refine' in_J (by k_asm) (by k_asm) (by rfl) (by decide) ?_; k_whole); intro h' tk' F' N'; (try k_sweep))
  k_with "compareOp NotIn bytes bytes" => (k_here; k_dflt (refine' notin_J (by k_asm) (by k_asm) (by rfl) (by decide) ?_; k_whole); intro h' tk' F' N'; (try k_sweep))
  k_with "compareOp Eq none bytes" => (k_here; refine eq_none_bytes ?_)
  k_with "compareOp Eq bytes str" => (k_here; refine eq_bytes_str ?_)
  k_with "subscriptTail" => (k_here; (with_reducible show wpAny _ _ (subscriptTail _ (Expr.Slice _ _ none _) (Value.bytes _ _) (Value.ref _)) _ _ _); (with_reducible rename Fr _ _ _ _ => F'); (with_reducible rename News _ _ _ _ => N'); (refine slice_J (s := ⟨_, _, _, _, _⟩) F' N' (by constructor) (by constructor) (by first | omega | ((try simp only [List.size_toArray, List.length_cons, List.length_nil]); omega)) ?_); intro h' t' k' F' N' hz'; (try k_sweep))
  k_with "subscriptTail" => (k_here; (with_reducible show wpAny _ _ (subscriptTail _ _ (Value.bytes _ _) (Value.int _ _)) _ _ _); (refine item_J (by omega) (by omega) (by omega) ?_); intro t' k')
  k_with "getMethod bytes" => (k_here; first | refine method_replace ?_ | refine method_split ?_ | refine method_join ?_ | refine method_endswith ?_)
  k_with "call builtin:bytes.endswith" => (k_here; refine call_endswith ?_)
  k_with "call builtin:bytes.replace" => (k_here; refine replace_J (by omega) ?_; intro t' k')
  k_with "call builtin:bytes.split" => (k_here; k_dflt (refine' split_J (by omega) (by k_asm) (by k_asm) ?_; k_whole); intro l' vs' ps' h' k' hv' hps' hln' hsz' F' N' l1; (try k_sweep))
  k_with "binaryOp Add bytes bytes" => (k_here; (with_reducible show wpAny _ _ (binaryOp Operator.Add (Value.bytes _ _) (Value.bytes _ _)) _ _ _); (refine KBy.add_bytes (by (try simp only [List.size_toArray, List.length_cons, List.length_nil]); omega) ?_); intro t' k')
  k_with "InvEndN" => k_dflt kst_close
  k_with "compareOp In bytes ref" => (k_here; k_dflt (refine' in_tup_bytes (by exact News.isTup (by k_asm) (by k_mem)) (by repeat constructor) ?_))
  k_with "getMethod bytes" => (k_here; refine KBd.method ?_)
  k_with "call builtin:bytes.decode" => (k_here; refine call_decode_empty ?_; intro t' k')
  k_with "compareOp In str ref" => (k_here; (with_reducible show wpAny _ _ (compareOp CmpOp.In (Value.str _ _) (Value.ref 43)) _ _ _); k_dflt (refine' in_auto (by k_asm) (by k_asm) (by first | rfl | decide +kernel) ?_; k_whole))
  k_with "compareOp Is bytes bool" => (k_here; with_reducible refine is_bb ?_)
  k_with "compareOp Is none bool" => (k_here; with_reducible refine is_nb ?_)
  k_with "ite" => first | with_reducible refine ite_tt ?_ | with_reducible refine ite_ff ?_ | with_reducible refine ite_True_then ?_ | with_reducible refine ite_False_else ?_
  k_with "CompSrc" => refine Stop.go ?_
  k_with "execs cons" => (k_here; (with_reducible show wpAny _ _ (execs (Stmt.Assign [PySem.Expr.Name (PySem.Str.ofString "action") _] _ _ :: _) _) _ _ _); refine Stop.go ?_)
  k_with "call builtin:bytes.join" => (k_here; k_dflt (refine' join_data (by k_asm) (by k_mem) (by assumption) (by assumption) (by assumption) (by omega) ?_); intro t' tk' b' hb')
  k_with "eval ListComp" => (k_here; k_dflt (refine LCg.ListComp_U (F₀ := by k_asm) (by with_unfolding_all rfl) (by decide) (by rfl) (by decide) (by rfl) ?_))
  k_with "subscriptTail" => (k_here; (with_reducible show wpAny _ _ (subscriptTail _ _ (Value.ref _) (Value.int _ _)) _ _ _); (with_unfolding_all refine' pick_piece (by is_list) (by decide) (by decide) (by decide) (by decide) (by decide) (by decide) (by decide) (by assumption) (by assumption) ?_ (by intro _; with_unfolding_all rfl); k_whole); intro b' t' hb')
  k_with "call ref" => (k_here; (with_reducible show wpAny _ _ (call (Value.ref 175) [Value.ref _, Value.int _ _]) _ _ _); k_dflt (refine' c_next _ _ _ _ _ _ _ _ _ _ _ _ _ _ _ _ _ _ _ (by k_asm) (by k_asm) (by k_asm) (by k_asm) (by k_asm) (by first | exact rfl | assumption) (by ktr_room) (by ktr_units) _ _ _ _ _ _ _ _ _ _ _ _ _ (by intro o'; k_upd) (by k_mem) (by assumption) (by assumption) (by rw [List.length_take]; omega) (by omega) (by omega) (by omega) (by omega) (by omega) (by omega) ?_); intro r' t' u1' u2' n1' h' tk' hr0' hr1' F' N'; (try k_sweep))
  trivial
set_option maxRecDepth 100000 in
set_option maxHeartbeats 8000000 in
theorem law_tail {w : World} {p : Program} {loose : List Str} {mean : ExcName → Option Value} {mg mb : Str → Option Value} {fa : Addr} {h₀ : Heap} {L : Addr} {m : Str → Option Value} {s : Shared} {Q : Flow → Shared → Prop} {E : Value → Shared → Prop} {sc : Scope} {bd : List Stmt} {news : List (Addr × Obj)}
  {st l td : Addr} {seed : Int} {t1 t2 tn tw tsf ta1 ta2 te : Tok} {ws : List Value} {ns : List Int} {n1 n2 : Nat} {oT o1 o2 o3 o4 : Obj} {v2 v3 v4 : Option Value} {nv : Str} {wb sf : Array UInt8} {iv : Option Bool} {a1 a2 : AV} {e : EV}
  (hbd : bd = lawB.drop 9) (hsc : sc = lawS) (B : Below callerA h₀ [] h₀) (F : Fr h₀ L s.heap m) (N : News h₀ L s.heap news) (X : (hd.heap_1 w.params).In h₀) (T : Top p loose mean mg mb h₀) (C : CodeHd h₀ 219 217)
  (m1 : m (PySem.Str.ofString "index") = some (idxV iv)) (m2 : m (PySem.Str.ofString "safe") = some (.bytes sf tsf)) (m3 : m (PySem.Str.ofString "wish") = some (.bytes wb tw)) (m4 : m (PySem.Str.ofString "native") = some (.str nv tn)) (m5 : m (PySem.Str.ofString "told") = some (.ref td))
  (hW : Wish wb) (hS : Safe sf) (lo : (td == sysModules) = false)
  (hd' : oT.IsDictOf (bnKind PySem.Challenge.rw_jh0007_01.row.prog w) (addO (addO (addO [] kText (a1.opt ta1)) kCrlf (a2.opt ta2)) kEol (e.opt te)))
  (hc1 : o1.data = .cell (some (.ref st)))
  (k0 : ∀ q ∈ ([(td, oT), (st, PySem.W.listOf [.ref l, .int (0 + 1 + 1 + 1 + 1 + 1 + 1 + 1) t1, .int seed t2].toArray n1), (l, PySem.W.listOf ws.toArray n2), (L + 1 + 1 + 1 + 1, o4), (L + 1 + 1 + 1, o3), (L + 1 + 1, o2), (L + 1, o1), (217, tabObj #[])] : List (Addr × Obj)), q ∈ news)
  (hc2 : o2.data = .cell v2) (hc3 : o3.data = .cell v3) (hc4 : o4.data = .cell v4)
  (l0 : @LT.lt Nat _ 217 L) (l1 : @LT.lt Nat _ (L + 1 + 1 + 1 + 1) l) (l2 : @LT.lt Nat _ l st) (l3 : @LT.lt Nat _ st td)
  (hi : IntsAre ws (ns.take 60)) (hs0 : 0 ≤ seed) (hs1 : seed < 997)
  (hQ : ∀ m' h' tk' ps', Fr h₀ L h' m' → News h₀ L h' [(217, tabObj ps')] → Q (.ret (.bool true)) { s with heap := h', toks := tk' }) :
  wpAny (model PySem.Challenge.rw_jh0007_01.row.prog w) (callerA.deeper (envOfC (PySem.Str.ofString "law") sc L fa (.ref 219))) (execs bd (envOfC (PySem.Str.ofString "law") sc L fa (.ref 219))) Q E s := by
  conv at hbd => rhs; whnf
  conv at hsc => rhs; whnf
  subst hbd hsc
  have N1 := fun q hq => N q (k0 q hq)
  replace N1 : News _ _ _ _ := N1
  clear N k0
  have e : m = fun y => if y = PySem.Str.ofString "index" then some (idxV iv) else if y = PySem.Str.ofString "safe" then some (.bytes sf tsf) else if y = PySem.Str.ofString "wish" then some (.bytes wb tw) else if y = PySem.Str.ofString "native" then some (.str nv tn) else if y = PySem.Str.ofString "told" then some (.ref td) else m y := by
    funext y
    by_cases cm1 : y = PySem.Str.ofString "index"
    · rw [if_pos cm1, cm1, m1]
    rw [if_neg cm1]
    by_cases cm2 : y = PySem.Str.ofString "safe"
    · rw [if_pos cm2, cm2, m2]
    rw [if_neg cm2]
    by_cases cm3 : y = PySem.Str.ofString "wish"
    · rw [if_pos cm3, cm3, m3]
    rw [if_neg cm3]
    by_cases cm4 : y = PySem.Str.ofString "native"
    · rw [if_pos cm4, cm4, m4]
    rw [if_neg cm4]
    by_cases cm5 : y = PySem.Str.ofString "told"
    · rw [if_pos cm5, cm5, m5]
    rw [if_neg cm5]
  rw [e] at F
  clear e m1 m2 m3 m4 m5
  revert X; k_fill; intro X
  k_steps
  unfold Stop
  rename IsRange _ _ _ _ _ _ _ _ => hR
  rename Fr _ _ _ _ => kF
  rename News _ _ _ _ => kN
  have ok := range_ok hr0' hr1'
  refine LCg.CompSrc.range rfl kF kN hR ok.1 ok.2 (by rw [sizeLine_eq]; omega) fun g' => ?_
  clear kN kF hR
  refine comp_ind (n := r'.toNat) (p0 := 8) (st := st) (nf := fun o => [(td, oT), (st, o), (l, PySem.W.listOf ws.toArray n2), (L + 1 + 1 + 1 + 1, o4), (L + 1 + 1 + 1, o3), (L + 1 + 1, o2), (L + 1, o1), (217, tabObj #[])]) (by omega) (by omega) (fun _ _ _ _ _ h => h) ?step ?fin r'.toNat 0 [] [] _ _ _ _ (by omega) (by omega) .nil (by simp) rfl
  case step =>
    clear hQ hW hS lo hd'
    intro place u1' u2' n1' v I oI C' oC D m₂ h tk E' ys hpl0 hpl1 hP hC hx F' N' off ne
    try simp only [LCg.Off3, and_true] at off
    obtain ⟨⟨p1, p2, p3⟩, ⟨p4, p5, p6⟩, ⟨p7, p8, p9⟩, ⟨p10, p11, p12⟩, ⟨p13, p14, p15⟩, ⟨p16, p17, p18⟩, ⟨p19, p20, p21⟩, p22, p23, p24⟩ := off
    obtain ⟨q1, q2, q3⟩ := ne
    try dsimp only at N'
    k_steps
    rename News _ _ _ _ => kN
    refine' piece_end ?hb ?hF kN ?hs
    case hb => assumption
    case hF => k_asm
    case hs =>
      dsimp only [List.cons_append, List.nil_append]
      repeat (first | exact List.forall_mem_nil _ | refine List.forall_mem_cons.mpr ⟨by k_mem, ?_⟩)
  case fin =>
    intro ys ps' p1 u1' u2' n1' hv hp hl
    unfold LCg.FinE
    intro D' h' tk' F' N' o1'
    try simp only [LCg.Off1, and_true] at o1'
    obtain ⟨p1, p2, p3, p4, p5, p6, p7, p8⟩ := o1'
    try dsimp only at N'
    k_steps
    unfold Stop
    rename Fr _ _ _ _ => kF
    rename News _ _ _ _ => kN
    exact law_tail2 (oT := oT) (o4 := o4) (o3 := o3) rfl rfl B kF kN X T C (by repeat (first | exact List.forall_mem_nil _ | refine List.forall_mem_cons.mpr ⟨by k_mem, ?_⟩)) (by assumption) hc3 hc4 l0 (by omega) (by assumption) rfl rfl rfl rfl rfl hW hS lo hd' hQ
end
section
theorem news_tail {h₀ h : Heap} {L : Addr} {q : Addr × Obj} {news : List (Addr × Obj)} (N : News h₀ L h (q :: news)) : News h₀ L h news := fun x hx => N x (List.mem_cons_of_mem _ hx)
local macro_rules | `(tactic| k_ne) => `(tactic| (refine neN ?_; first | with_reducible assumption | (refine Ne.symm ?_; with_reducible assumption) | (refine Nat.ne_of_gt ?_; with_reducible assumption) | (refine Nat.ne_of_lt ?_; with_reducible assumption)))
theorem tl0 : ([] : List (Option (List UInt8) × Value)).length ≤ sizeLine := by rw [sizeLine_eq]; decide
theorem tl1 (k : Option (List UInt8)) (o : Option Value) : (addO [] k o).length ≤ sizeLine := by
  rw [sizeLine_eq]; cases o <;> simp [addO, stored]
theorem tl2 (k k2 : Option (List UInt8)) (o o2 : Option Value) : (addO (addO [] k o) k2 o2).length ≤ sizeLine := by
  rw [sizeLine_eq]
  cases o <;> cases o2 <;> simp [addO, stored]
  split <;> simp
theorem cutToldA {prog : Program} {w : World} {A : Around} {E : Value → Shared → Prop} {s : Shared} {h₀ : Heap} {L d : Addr} {o : Obj} {m : Str → Option Value} {news : List (Addr × Obj)} {g : Obj → List (Addr × Obj)} {kvs : List (Option (List UInt8) × Value)} {a : AV} {kb : Array UInt8} {t u : Tok} {st : Stmt} {env : Env} {Q : Flow → Shared → Prop}
    (_ : Fr h₀ L s.heap m) (_ : News h₀ L s.heap news) (_ : m (Str.ofString "value") = some (AV.val a t)) (_ : m (Str.ofString "name") = some (.bytes kb u)) (_ : m (Str.ofString "told") = some (.ref d)) (_ : o.IsDictOf (bnKind prog w) kvs) (_ : UpdF d o news g)
    (h1 : wpAny (model prog w) A (exec st env) (CutT prog w h₀ L m g kvs (some kb.toList) (a.opt t) s) E s)
    (h2 : ∀ (h : Heap) (tk : Nat) (o' : Obj), Fr h₀ L h m → News h₀ L h (g o') → o'.IsDictOf (bnKind prog w) (addO kvs (some kb.toList) (a.opt t)) → Q .next { s with heap := h, toks := tk }) : wpAny (model prog w) A (exec st env) Q E s := cutTold h1 h2
theorem cutToldE {prog : Program} {w : World} {A : Around} {E : Value → Shared → Prop} {s : Shared} {h₀ : Heap} {L d : Addr} {o : Obj} {m : Str → Option Value} {news : List (Addr × Obj)} {g : Obj → List (Addr × Obj)} {kvs : List (Option (List UInt8) × Value)} {a : EV} {t : Tok} {st : Stmt} {env : Env} {Q : Flow → Shared → Prop}
    (_ : Fr h₀ L s.heap m) (_ : News h₀ L s.heap news) (_ : m (Str.ofString "end") = some (EV.val a t)) (_ : m (Str.ofString "told") = some (.ref d)) (_ : o.IsDictOf (bnKind prog w) kvs) (_ : UpdF d o news g)
    (h1 : wpAny (model prog w) A (exec st env) (CutT prog w h₀ L m g kvs kEol (a.opt t) s) E s)
    (h2 : ∀ (h : Heap) (tk : Nat) (o' : Obj), Fr h₀ L h m → News h₀ L h (g o') → o'.IsDictOf (bnKind prog w) (addO kvs kEol (a.opt t)) → Q .next { s with heap := h, toks := tk }) : wpAny (model prog w) A (exec st env) Q E s := cutTold h1 h2
theorem cutT_setA {prog : Program} {w : World} {h₀ h : Heap} {L : Addr} {m : Str → Option Value} {g : Obj → List (Addr × Obj)} {kvs : List (Option (List UInt8) × Value)} {k : Option (List UInt8)} {a : AV} {t : Tok} {s : Shared} {tk : Nat} {o' : Obj} (ha : (a.opt t).isSome = true) (F : Fr h₀ L h m) (N : News h₀ L h (g o')) (hd : o'.IsDictOf (bnKind prog w) (stored kvs k (a.val t))) : CutT prog w h₀ L m g kvs k (a.opt t) s .next { s with heap := h, toks := tk } :=
  ⟨rfl, h, tk, o', rfl, F, N, by cases a <;> first | exact hd | (simp [AV.opt, EV.opt] at ha; done)⟩
theorem cutT_setE {prog : Program} {w : World} {h₀ h : Heap} {L : Addr} {m : Str → Option Value} {g : Obj → List (Addr × Obj)} {kvs : List (Option (List UInt8) × Value)} {k : Option (List UInt8)} {a : EV} {t : Tok} {s : Shared} {tk : Nat} {o' : Obj} (ha : (a.opt t).isSome = true) (F : Fr h₀ L h m) (N : News h₀ L h (g o')) (hd : o'.IsDictOf (bnKind prog w) (stored kvs k (a.val t))) : CutT prog w h₀ L m g kvs k (a.opt t) s .next { s with heap := h, toks := tk } :=
  ⟨rfl, h, tk, o', rfl, F, N, by cases a <;> first | exact hd | (simp [AV.opt, EV.opt] at ha; done)⟩
theorem cutT_no {prog : Program} {w : World} {h₀ h : Heap} {L : Addr} {o : Obj} {m : Str → Option Value} {g : Obj → List (Addr × Obj)} {news : List (Addr × Obj)} {kvs : List (Option (List UInt8) × Value)} {k : Option (List UInt8)} {ov : Option Value} {s : Shared} {tk : Nat} (ha : ov.isSome = false) (F : Fr h₀ L h m) (N : News h₀ L h news) (hg : g o = news) (hd : o.IsDictOf (bnKind prog w) kvs) : CutT prog w h₀ L m g kvs k ov s .next { s with heap := h, toks := tk } :=
  ⟨rfl, h, tk, o, rfl, F, by rw [hg]; exact N, by cases ov <;> first | exact hd | (simp at ha; done)⟩
theorem words20 : True := by
  k_with_none
  k_with "callWith ref" => (k_here; k_dflt (refine' callWith_K (by k_asm) (by k_is) ?_; k_whole))
  k_with "compareOp In bytes bytes" => (k_here; k_dflt (refine' in_J (by k_asm) (by k_asm) (by rfl) (by decide) ?_; k_whole); intro h' tk' F' N'; (try k_sweep))
  k_with "compareOp NotIn bytes bytes" => (k_here; k_dflt (refine' notin_J (by k_asm) (by k_asm) (by rfl) (by decide) ?_; k_whole); intro h' tk' F' N'; (try k_sweep))
  k_with "compareOp Eq none bytes" => (k_here; refine eq_none_bytes ?_)
  k_with "compareOp Eq bytes str" => (k_here; refine eq_bytes_str ?_)
  k_with "subscriptTail" => (k_here; (with_reducible show wpAny _ _ (subscriptTail _ (Expr.Slice _ _ none _) (Value.bytes _ _) (Value.ref _)) _ _ _); (with_reducible rename Fr _ _ _ _ => F'); (with_reducible rename News _ _ _ _ => N'); (refine slice_J (s := ⟨_, _, _, _, _⟩) F' N' (by constructor) (by constructor) (by first | omega | ((try simp only [List.size_toArray, List.length_cons, List.length_nil]); omega)) ?_); intro h' t' k' F' N' hz'; (try k_sweep))
  k_with "subscriptTail" => (k_here; (with_reducible show wpAny _ _ (subscriptTail _ _ (Value.bytes _ _) (Value.int _ _)) _ _ _); (refine item_J (by omega) (by omega) (by omega) ?_); intro t' k')
  k_with "getMethod bytes" => (k_here; first | refine method_replace ?_ | refine method_split ?_ | refine method_join ?_ | refine method_endswith ?_)
  k_with "call builtin:bytes.endswith" => (k_here; refine call_endswith ?_)
  k_with "call builtin:bytes.replace" => (k_here; refine replace_J (by omega) ?_; intro t' k')
  k_with "call builtin:bytes.split" => (k_here; k_dflt (refine' split_J (by omega) (by k_asm) (by k_asm) ?_; k_whole); intro l' vs' ps' h' k' hv' hps' hln' hsz' F' N' l1; (try k_sweep))
  k_with "binaryOp Add bytes bytes" => (k_here; (with_reducible show wpAny _ _ (binaryOp Operator.Add (Value.bytes _ _) (Value.bytes _ _)) _ _ _); (refine KBy.add_bytes (by (try simp only [List.size_toArray, List.length_cons, List.length_nil]); omega) ?_); intro t' k')
  k_with "InvEndN" => k_dflt kst_close
  k_with "compareOp In bytes ref" => (k_here; k_dflt (refine' in_tup_bytes (by exact News.isTup (by k_asm) (by k_mem)) (by repeat constructor) ?_))
  k_with "getMethod bytes" => (k_here; refine KBd.method ?_)
  k_with "call builtin:bytes.decode" => (k_here; refine call_decode_empty ?_; intro t' k')
  k_with "compareOp In str ref" => (k_here; (with_reducible show wpAny _ _ (compareOp CmpOp.In (Value.str _ _) (Value.ref 43)) _ _ _); k_dflt (refine' in_auto (by k_asm) (by k_asm) (by first | rfl | decide +kernel) ?_; k_whole))
  k_with "compareOp Is bytes bool" => (k_here; with_reducible refine is_bb ?_)
  k_with "compareOp Is none bool" => (k_here; with_reducible refine is_nb ?_)
  k_with "ite" => first | with_reducible refine ite_tt ?_ | with_reducible refine ite_ff ?_ | with_reducible refine ite_True_then ?_ | with_reducible refine ite_False_else ?_
  k_with "eval Dict" => (k_here; (with_reducible show wpAny _ _ (eval (Expr.Dict (some (Expr.Constant (Const.bytes _) _ _) :: _) _ _) _) _ _ _); (with_reducible refine' dict_bn (by k_dflt k_asm) (by k_dflt k_asm) (by k_dflt exact TopRead.nolimit (by k_asm)) (by k_dflt rfl) (by k_dflt rfl) (by k_dflt exact List.cons_ne_nil _ _) (by k_dflt decide) ?_); k_dflt k_whole; intro d' h' o' F' N' l1 lo' hs'; (try k_lt l1); (try k_sweep))
  k_with "KdnMade" => k_dflt (refine' made_bn (by k_asm) (by k_asm) (by k_updF) (by assumption) (by first | exact carr_cons (carr_cons carr_nil) | exact carr_cons (carr_cons (carr_cons carr_nil))) (by rfl) ?_; k_whole; intro h' o' F' N' hs'; (try k_sweep))
  k_with "getMethod ref" => (k_here; (with_reducible show wpAny _ _ (getMethod (Value.ref _) "get" _) _ _ _); k_dflt (refine' kdg_method (knd := bnKind _ _) (by k_asm) (by k_mem) (by assumption) ?_))
  k_with "call builtin:dict.get" => (k_here; k_dflt (first | (refine' get2_bn (by k_asm) (by k_mem) (by assumption) (by assumption) (Value.str _ _) (by rfl) ?_) | (refine' get2_n (by k_asm) (by k_mem) (by assumption) (by assumption) (Value.str _ _) (by rfl) ?_)))
  k_with "subscriptTail" => (k_here; (with_reducible show wpAny _ _ (subscriptTail _ _ (Value.ref _) (Value.int _ _)) _ _ _); (with_unfolding_all refine' pick_idx (by is_list) (by assumption) (by assumption) ?_ (by intro _; with_unfolding_all rfl); k_whole); intro iv'; (with_reducible rename News _ _ _ _ => pN'); (replace pN' := news_tail pN'); (try k_sweep))
  k_with "subscriptTail" => (k_here; (with_reducible show wpAny _ _ (subscriptTail _ _ (Value.ref _) (Value.int _ _)) _ _ _); (with_unfolding_all refine' pick_safe (by is_list) (by assumption) (by assumption) ?_ (by intro _; with_unfolding_all rfl); k_whole); intro sf' t' hsf'; (with_reducible rename News _ _ _ _ => pN'); (replace pN' := news_tail pN'); (try k_sweep))
  k_with "subscriptTail" => (k_here; (with_reducible show wpAny _ _ (subscriptTail _ _ (Value.ref _) (Value.int _ _)) _ _ _); (with_unfolding_all refine' pick_wish (by is_list) (by assumption) (by assumption) ?_ (by intro _; with_unfolding_all rfl); k_whole); intro wb' t' hW'; (with_reducible rename News _ _ _ _ => pN'); (replace pN' := news_tail pN'); (try k_sweep))
  k_with "subscriptTail" => (k_here; (with_reducible show wpAny _ _ (subscriptTail _ _ (Value.ref _) (Value.int _ _)) _ _ _); (with_unfolding_all refine' pick_str (by is_list) (by assumption) (by assumption) ?_ (by intro _; with_unfolding_all rfl); k_whole); intro nv' t'; (with_reducible rename News _ _ _ _ => pN'); (replace pN' := news_tail pN'); (try k_sweep))
  k_with "subscriptTail" => (k_here; (with_reducible show wpAny _ _ (subscriptTail _ _ (Value.ref _) (Value.int _ _)) _ _ _); (with_unfolding_all refine' pick_ev (by is_list) (by assumption) (by assumption) ?_ (by intro _; with_unfolding_all rfl); k_whole); intro e' t'; (with_reducible rename News _ _ _ _ => pN'); (replace pN' := news_tail pN'); (try k_sweep))
  k_with "subscriptTail" => (k_here; (with_reducible show wpAny _ _ (subscriptTail _ _ (Value.ref _) (Value.int _ _)) _ _ _); (with_unfolding_all refine' pick_av (by is_list) (by assumption) (by assumption) ?_ (by intro _; with_unfolding_all rfl); k_whole); intro a' t'; (with_reducible rename News _ _ _ _ => pN'); (replace pN' := news_tail pN'); (try k_sweep))
  k_with "eval Dict nil nil" => (k_here; k_dflt (refine' newDict_bn (by k_asm) (by k_asm) (TopRead.nolimit (by k_asm)) ?_; k_whole); intro d' h' o' F' N' l1 lo' hs'; (try k_lt l1); (try k_sweep))
  k_with "compareOp IsNot" => (k_here; first | (with_reducible refine isNot_av ?_) | (with_reducible refine isNot_ev ?_))
  k_with "setItem ref bytes" => (k_here; k_dflt (refine' kda_set (knd := bnKind _ _) (by k_asm) (by k_asm) (by k_updF) (by assumption) bn_bytes (by first | exact tl0 | exact tl1 _ _ | exact tl2 _ _ _ _) ?_; k_whole); intro h' o' F' N' hs'; (try k_sweep))
  k_with "exec If" => (k_here; (with_reducible show wpAny _ _ (exec (Stmt.If (PySem.Expr.Compare (PySem.Expr.Name (PySem.Str.ofString "end") _) _ _ _) [Stmt.Assign [Expr.Subscript _ _ _] _ _] _ _) _) _ _ _); (fail_if_success (with_reducible show wpAny _ _ _ (CutT _ _ _ _ _ _ _ _ _ _) _ _)); k_dflt (refine' cutToldE (by k_asm) (by k_asm) (by rfl) (by rfl) (by assumption) (by k_updF) ?_ ?_))
  k_with "exec If" => (k_here; (with_reducible show wpAny _ _ (exec (Stmt.If (PySem.Expr.Compare (PySem.Expr.Name (PySem.Str.ofString "value") _) _ _ _) [Stmt.Assign [Expr.Subscript _ _ _] _ _] _ _) _) _ _ _); (fail_if_success (with_reducible show wpAny _ _ _ (CutT _ _ _ _ _ _ _ _ _ _) _ _)); k_dflt (refine' cutToldA (by k_asm) (by k_asm) (by rfl) (by rfl) (by rfl) (by assumption) (by k_updF) ?_ ?_))
  k_with "CutT" => (k_dflt first | (refine' cutT_setA (by assumption) (by k_asm) (by k_asm) (by assumption)) | (refine' cutT_setE (by assumption) (by k_asm) (by k_asm) (by assumption)) | (refine' cutT_no (by assumption) (by k_asm) (by k_asm) (by rfl) (by assumption)))
  k_with "forall" => ((with_reducible show ∀ (_ : Heap) (_ : Nat) (o' : Obj), _ → _ → o'.IsDictOf _ _ → _); intro h' tk' o' F' N' hd'; (try k_sweep))
  k_with "call ref" => (k_here; (with_reducible show wpAny _ _ (call (Value.ref 180) [Value.ref _]) _ _ _); k_dflt (refine' c_state _ _ _ _ _ _ _ _ _ _ _ _ _ _ _ _ _ _ _ (by k_asm) (by k_asm) (by k_asm) (by k_asm) (by k_asm) (by first | exact rfl | assumption) (by ktr_room) (by ktr_units) _ _ _ (by assumption) (by assumption) (by omega) ?_); intro st' l' seed' t1' t2' ws' n1' n2' h' tk' hlt' hlo' hi' hs0' hs1' F' N'; (try k_lt hlo'); (try k_sweep))
  k_with "call ref" => (k_here; (with_reducible show wpAny _ _ (call (Value.ref 175) [Value.ref _, Value.int _ _]) _ _ _); k_dflt (refine' c_next _ _ _ _ _ _ _ _ _ _ _ _ _ _ _ _ _ _ _ (by k_asm) (by k_asm) (by k_asm) (by k_asm) (by k_asm) (by first | exact rfl | assumption) (by ktr_room) (by ktr_units) _ _ _ _ _ _ _ _ _ _ _ _ _ (by intro o'; k_upd) (by k_mem) (by assumption) (by assumption) (by rw [List.length_take]; omega) (by omega) (by omega) (by omega) (by omega) (by omega) (by omega) ?_); intro r' t' u1' u2' n1' h' tk' hr0' hr1' F' N'; (try k_sweep))
  k_with "execs cons" => (k_here; (with_reducible show wpAny _ _ (execs (Stmt.Assign [PySem.Expr.Name (PySem.Str.ofString "data") _] _ _ :: _) _) _ _ _); k_dflt (refine' law_tail (by exact rfl) (by exact rfl) (by k_asm) (by k_asm) (by k_asm) (by k_asm) (by k_asm) (by assumption) (by exact rfl) (by exact rfl) (by exact rfl) (by exact rfl) (by exact rfl) (by assumption) (by assumption) (by assumption) (by assumption) (by assumption) (by (repeat (first | exact List.forall_mem_nil _ | refine List.forall_mem_cons.mpr ⟨by k_mem, ?_⟩))) (by assumption) (by assumption) (by assumption) (by assumption) (by omega) (by assumption) (by omega) (by assumption) (by assumption) (by assumption) ?_); assumption)
  trivial
set_option maxRecDepth 100000 in
set_option maxHeartbeats 8000000 in
theorem law_all {w : World} {p : Program} {loose : List Str} {mean : ExcName → Option Value} {mg mb : Str → Option Value} {fa : Addr} {h₀ : Heap} {L : Addr} {m : Str → Option Value} {s : Shared} {Q : Flow → Shared → Prop} {sc : Scope} {bd : List Stmt} {news : List (Addr × Obj)}
  {sl : Addr} {vs : List Value} {ns : List Int} {o1 o2 o3 o4 : Obj} {v1 v2 v3 v4 : Option Value}
  (hbd : bd = lawB) (hsc : sc = lawS) (B : Below callerA h₀ [] h₀) (F : Fr h₀ L s.heap m) (N : News h₀ L s.heap news) (X : (hd.heap_1 w.params).In h₀) (T : Top p loose mean mg mb h₀) (C : CodeHd h₀ 219 217)
  (k0 : ∀ q ∈ ([(L + 1 + 1 + 1 + 1, o4), (L + 1 + 1 + 1, o3), (L + 1 + 1, o2), (L + 1, o1), (217, tabObj #[])] : List (Addr × Obj)), q ∈ news)
  (hc1 : o1.data = .cell v1) (hc2 : o2.data = .cell v2) (hc3 : o3.data = .cell v3) (hc4 : o4.data = .cell v4)
  (l0 : @LT.lt Nat _ 217 L)
  (m0 : m (PySem.Str.ofString "script") = some (.ref sl)) (hl : h₀.IsList sl vs.toArray) (hi : IntsAre vs ns) (hlen : ns.length ≤ 63)
  (hQ : ∀ m' h' tk' ps', Fr h₀ L h' m' → News h₀ L h' [(217, tabObj ps')] → Q (.ret (.bool true)) { s with heap := h', toks := tk' }) :
  wpAny (model PySem.Challenge.rw_jh0007_01.row.prog w) (callerA.deeper (envOfC (PySem.Str.ofString "law") sc L fa (.ref 219))) (execs bd (envOfC (PySem.Str.ofString "law") sc L fa (.ref 219))) Q (fun _ _ => False) s := by
  conv at hbd => rhs; whnf
  conv at hsc => rhs; whnf
  subst hbd hsc
  have N1 := fun q hq => N q (k0 q hq)
  replace N1 : News _ _ _ _ := N1
  clear N k0
  have e : m = fun y => if y = PySem.Str.ofString "script" then some (.ref sl) else m y := by
    funext y
    by_cases cm0 : y = PySem.Str.ofString "script"
    · rw [if_pos cm0, cm0, m0]
    rw [if_neg cm0]
  rw [e] at F
  clear e m0
  revert X; k_fill; intro X
  k_steps
end
section
theorem words21 : True := by
  k_with_none
  k_with "callWith ref" => (k_here; k_dflt (refine' callWith_K (by k_asm) (by k_is) ?_; k_whole))
  k_with "execs cons" => (k_here; (with_reducible show wpAny _ _ (execs (Stmt.Assign [PySem.Expr.Name (PySem.Str.ofString "state") _] _ _ :: _) _) _ _ _); k_dflt (refine wpAny_noRaise ?_; refine' law_all (by exact rfl) (by exact rfl) (by k_asm) (by k_asm) (by k_asm) (by k_asm) (by k_asm) (by assumption) (by (repeat (first | exact List.forall_mem_nil _ | refine List.forall_mem_cons.mpr ⟨by k_mem, ?_⟩))) (by assumption) (by assumption) (by assumption) (by assumption) (by assumption) (by exact rfl) (by assumption) (by assumption) (by omega) ?_); intro m' h' tk' ps' F' N'; (try k_sweep))
  trivial
set_option maxRecDepth 100000 in
set_option maxHeartbeats 8000000 in
theorem law_holds : PySem.Challenge.rw_jh0007_01.Holds := by
  w_on
  o_law
  refine holds_open (q := seenV) (loose := loose) (Xt := Xt) (XP := XL seenV []) (Yf := Hook.obs hd) (Ya := Hook.val hd) (YP := Hook.says hd) (N := 2734) left_ok (Hook.of hd) (Hook.keeps hd) (fun s e => xl_of s (Bool.and_eq_true_iff.mp e).1) XL.keeps (by rfl) (by rfl) (by rfl) (fun s e => recFacts_of (Bool.and_eq_true_iff.mp e).2) (by rfl) (by first | assumption | decide +kernel) (by decide +kernel) ⟨rfl, rfl, rfl, rfl, rfl, by decide +kernel⟩ ?hw ?hc
  case hw => w_witness2
  case hc =>
    unfold hd pickH
    w_strict (k_go0; (all_goals try k_fold); k_steps)
end
end Jh

theorem PySem.Challenge.cw_jh0007_01_holds : PySem.Challenge.rw_jh0007_01.Holds := by
  exact Jh.law_holds
