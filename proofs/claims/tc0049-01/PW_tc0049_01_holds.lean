import PyProof.Rows.All
import Wide.All
import OpenK.AllK
import Wide.FinOn
import PySem.Challenge.RW_tc0049_01

set_option Elab.async false
set_option maxRecDepth 100000
set_option linter.all false
section
open PySem PySem.W PyProof.Rows
set_option Elab.async false
set_option maxRecDepth 100000
set_option maxHeartbeats 8000000
set_option linter.all false
namespace Mine
noncomputable def looseQ : List Str := (["_Accumulator", "_twin_re_1", "_twin_re_2", "EXACT_TOKEN_TYPES", "_sre", "_wall", "quotedata", "ISEOF", "_law_kinds", "_law_led", "_law_put"] : List Str) ++ ((["NL", "EMPTYSTRING", "CRLF", "ENDMARKER", "LPAR", "RPAR", "LSQB", "RSQB", "COLON", "COMMA", "SEMI", "PLUS", "MINUS", "STAR", "SLASH", "VBAR", "AMPER", "LESS", "GREATER", "EQUAL", "DOT", "PERCENT", "LBRACE", "RBRACE", "EQEQUAL", "NOTEQUAL", "LESSEQUAL", "GREATEREQUAL", "TILDE", "CIRCUMFLEX", "LEFTSHIFT", "RIGHTSHIFT", "DOUBLESTAR", "PLUSEQUAL", "MINEQUAL", "STAREQUAL", "SLASHEQUAL", "PERCENTEQUAL", "AMPEREQUAL", "VBAREQUAL", "CIRCUMFLEXEQUAL", "LEFTSHIFTEQUAL", "RIGHTSHIFTEQUAL", "DOUBLESTAREQUAL", "DOUBLESLASH", "DOUBLESLASHEQUAL", "AT", "ATEQUAL", "RARROW", "ELLIPSIS", "COLONEQUAL", "EXCLAMATION", "_ValueFormatter"] : List String).map Str.ofString)
noncomputable def viewQ : Program := view PySem.Challenge.rw_tc0049_01.row.prog [68]
noncomputable abbrev prQ : Program := PySem.Challenge.rw_tc0049_01.row.prog
abbrev worldQ (b : Bool) (w : World) : World := w.withFollow "special-get-raises" b
noncomputable abbrev xtQ : Shared → Bool := fun s => xlAt viewQ [] s && recOk (RowW.records PySem.Challenge.rw_tc0049_01.row.toRowW) s
theorem ends_is (w : World) (N : Nat) : openEnds treeTable prQ w N = ((PySem.importEnds treeTable (opening prQ) w N (start (opening prQ)).1 (start (opening prQ)).2).bind (fenceModules? prQ)).bind (fun s₀ => match s₀.heap.isNs mainGlobals && s₀.gens.size == 0 with
  | true => (topRun treeTable prQ w s₀.heap.objs.size (s₀.heap.nsMap mainGlobals "__annotations__") N s₀ (topStub prQ)).bind fun s₁ => match staticsOk (importedModules prQ.main.body) s₀.heap s₁.heap && namesBound prQ s₁.heap && gensDone s₁ && laidKept s₀.heap s₁.heap with
      | true => some s₁
      | false => none
  | false => none) := rfl
theorem law_said : PySem.Challenge.rw_tc0049_01.wellSaid = true := by
  rw [Fast.te9446332074065402090]; kernel_rfl
local macro_rules | `(tactic| o_law) => `(tactic| refine holds_law law_said fun said => ?_)
local macro_rules | `(tactic| o_head $_) => `(tactic| fail "mine")
local macro_rules | `(tactic| o_head ($_ $K $a $e)) => `(tactic| (
  refine (fun x => holds_open (q := viewQ) (loose := looseQ) (Xt := xtQ) (XP := XL viewQ []) (Yf := Hook.obs (kmHook $K $a $e [157, 164])) (Ya := Hook.val (kmHook $K $a $e [157, 164])) (YP := Hook.says (kmHook $K $a $e [157, 164])) (N := 5790) (And.left x) (Hook.of (kmHook $K $a $e [157, 164])) (Hook.keeps (kmHook $K $a $e [157, 164])) (fun s e => xl_of s (Bool.and_eq_true_iff.mp e).1) XL.keeps (by rfl) (by rfl) (by rfl) (fun s e => recFacts_of (Bool.and_eq_true_iff.mp e).2) (by rfl) (by assumption) (by decide +kernel) ⟨rfl, rfl, rfl, rfl, rfl, by decide +kernel⟩ ?hw (And.right x)) ?hc))
set_option maxHeartbeats 8000000 in
open_top hd for PySem.Challenge.rw_tc0049_01
noncomputable def asQ : List Addr := [2, 3, 32, 34, 35, 37, 38, 46, 48, 49, 51, 52, 53, 55, 56, 58, 59, 60, 62, 63, 65, 66, 67, 69, 70, 72, 73, 74, 76, 77, 79, 80, 81, 83, 84, 86, 87, 88, 90, 91, 93, 94, 95, 97, 98, 100, 101, 102, 104, 105, 107, 108, 109, 110, 111, 112, 113, 116, 119, 124, 125, 126, 128, 129, 131, 132, 133, 135, 136, 138, 139, 140, 141, 143, 144, 146, 147, 148, 149, 151, 152, 154, 155, 156, 158, 159, 161, 162, 163, 165, 166, 168, 169, 170, 171, 173, 174, 176, 177, 178, 180, 181, 183, 184, 185, 186, 188, 189, 191, 192, 193, 194, 195, 196, 197, 203, 204, 208, 209, 210, 212, 213, 215, 216, 217, 220, 222, 223, 225, 226, 227, 229, 230, 232, 233, 234, 236, 237, 239, 240, 241, 244, 245, 246, 249, 250]
noncomputable abbrev hookQ : Hook := kmHook hd.heap_1 asQ (fun _ => by kernel_rfl) [157, 164]
local macro_rules | `(tactic| walk_at "seen") => `(tactic| (rw [ends_is, Fast.te4187177175401517315, Fast.te5923862056798008813, Fast.te10274390034422433532, Fast.te14364793385576792824, Fast.te1435165496053646825, Fast.te14289696077712309145, Fast.te14082659384304107361, Fast.te8920871248978507458]; kernel_rfl))
theorem left_f (w : World) : (openEnds treeTable prQ (worldQ false w) 5790).map (fun s => (openSeen viewQ looseQ (importedModules prQ.main.body) xtQ true s, Hook.obs hookQ s)) = some (openGood viewQ looseQ, Hook.val hookQ (worldQ false w)) := by
  walk_at "seen"
theorem left_t (w : World) : (openEnds treeTable prQ (worldQ true w) 5790).map (fun s => (openSeen viewQ looseQ (importedModules prQ.main.body) xtQ true s, Hook.obs hookQ s)) = some (openGood viewQ looseQ, Hook.val hookQ (worldQ true w)) := by
  walk_at "seen"
theorem left_all : LeftO prQ viewQ looseQ xtQ (Hook.obs hookQ) (Hook.val hookQ) 5790 := byRow2 "special-get-raises" left_f left_t
end Mine
end

section
open PySem PySem.W PyProof.Rows PySem.Calls PySem.Spec
open Sem (wp)
open MeetsSeq
set_option Elab.async false
set_option maxRecDepth 100000
namespace Mine
noncomputable abbrev accO (C dx : Addr) (its : Array Value) (n : Nat) : Obj := ⟨.ref C, some dx, .seq its n, #[]⟩
theorem canon_lga : (Manifest.canonical "list.__getattribute__" != "object.__getattribute__") = false := by decide +kernel

section
variable {prog : Program} {w : World} {A : Around} {E : Value → Shared → Prop} {s : Shared} {K : Frag} {x C L dx : Addr} {h₀ : Heap} {m : Str → Option Value} {ox : Obj} {od : Option Obj} {name : Str} {pl : Sem Bool} {news news' : List (Addr × Obj)}
variable {es : List DictEntry} {n : Nat}
theorem acc_method {f : Value} {Q : Value × List Value → Shared → Prop} (F : Fr h₀ L s.heap m) (X₀ : K.In h₀) (I : InstAt s.heap x ox C (some (dictOf es n))) (hga : findIn K (.ref C) "__getattribute__" = some (some (.builtin "list.__getattribute__"))) (hk : findIn K (.ref C) "__getattr__" = some none)
    (hf : findIn K (.ref C) name = some (some f)) (ht : (typeIn K f).any (fun t => t == .type "function" || t == .type "method_descriptor") = true) (hs : getL name es = some none) (h : Q (f, [.ref x]) s) :
    wpAny (model prog w) A (getMethod (.ref x) name pl) Q E s := by
  have X := X₀.keeps F.keep
  have hcan := canon_lga
  obtain ⟨t, ht1, ht2⟩ : ∃ t, typeIn K f = some t ∧ (t == .type "function" || t == .type "method_descriptor") = true := by
    cases q : typeIn K f with
    | none => rw [q] at ht; cases ht
    | some t => rw [q] at ht; exact ⟨t, rfl, ht⟩
  unfold getMethod specialOf
  refine wpAny_bind (wpAny_bind (I.type.here ((looks_findIn X hga).here ?_)))
  dsimp only
  rw [hcan, if_neg (by decide)]
  refine wpAny_bind (wpAny_bind (I.type.here ((looks_findIn X hk).here ?_)))
  refine wpAny_bind (wpAny_bind (I.type.here ((looks_findIn X hf).here (wpAny_bind ((looks_typeIn X ht1).here ?_)))))
  have hno : ¬ (t != .type "function" && t != .type "method_descriptor" && t != .type "wrapper_descriptor") = true := by
    rcases Bool.or_eq_true_iff.mp ht2 with q | q <;> (rw [beq_iff_eq.mp q]; decide +kernel)
  rw [if_neg hno]
  refine wpAny_bind (wpAny_loadPart I.at_ ?_)
  have hd := I.dict
  cases e : ox.dict with
  | none => rw [e] at hd; exact hd.elim
  | some dx =>
    rw [e] at hd
    refine wpAny_bind (wpAny_bind (wpAny_loadPart hd ?_))
    have hl : lookIn name (dictOf es n) = some none := by rw [lookIn_dict]; exact hs
    rw [nsLook_of hl]
    exact wpAny_pure (wpAny_bind (wpAny_rule (wpAny_pure h)))

theorem upd_K {D : Addr} {o o' : Obj} {h' : Heap} (F : Fr h₀ L s.heap m) (N : News h₀ L s.heap news) (U : Upd D o o' news news') (hs : Heap.SameBut D s.heap h') (ho' : h'.get? D = some o') : Fr h₀ L h' m ∧ News h₀ L h' news' := by
  obtain ⟨pre, post, rfl, rfl, a, b⟩ := U.split
  have z := N (D, o) (List.mem_append.mpr (.inr (.head _)))
  exact ⟨F.change hs z.2.1 z.2.2, news_set N a b hs ho'⟩

theorem upd_at {D : Addr} {o o' : Obj} (f : Obj → Obj) (F : Fr h₀ L s.heap m) (N : News h₀ L s.heap news) (U : Upd D o o' news news') (e : f o = o') (hf : o'.isFreed = false) : Fr h₀ L (s.heap.update D f) m ∧ News h₀ L (s.heap.update D f) news' := by
  have ho : s.heap.get? D = some o := by
    obtain ⟨pre, post, rfl, rfl, a, b⟩ := U.split
    exact (N (D, o) (List.mem_append.mpr (.inr (.head _)))).1
  exact upd_K F N U (Heap.SameBut.update s.heap D f) (by rw [Heap.get?_update_self f ho (by rw [e]; exact hf), e])

theorem sub_isinst {M : Model} {owner : String} (X : K.In s.heap) (I : InstAt s.heap x ox C od) (hm : mroIn K C (.type owner) = some true) : Looks M s.heap (isInstance (.ref x) (.type owner)) true :=
  I.type.andThen (looks_mroIn X hm)

theorem check_meth {M : Model} {i owner n : String} {self : Value} {rest : List Value} {kw : List (Str × Value)} {Q : Unit → Shared → Prop}
    (hk : builtinKind i = some .method) (hs : splitId i = some (owner, n)) (hi : Looks M s.heap (isInstance self (.type owner)) true) (ha : argsOk i ⟨self :: rest, kw⟩) (q : Q () s) :
    wpAny M A (checkBuiltinCall i ⟨self :: rest, kw⟩) Q E s := by
  simp only [checkBuiltinCall, hk, hs]
  refine wpAny_bind (hi.here ?_)
  simp only [Bool.not_true, Bool.false_eq_true, if_false]
  cases hsig : Manifest.signature? i with
  | none => exact wpAny_pure q
  | some sig =>
    simp only [argsOk, hsig] at ha
    have h2 : Bind.checkArgs i sig ⟨self :: rest, kw⟩ = pure () := ha
    show wpAny M A (Bind.checkArgs i sig ⟨self :: rest, kw⟩) Q E s
    rw [h2]; exact wpAny_pure q

theorem sub_call {i owner nm : String} {B : Builtin} {rest : List Value} {Q : Value → Shared → Prop} (X : K.In s.heap) (I : InstAt s.heap x ox C od) (hm : mroIn K C (.type owner) = some true)
    (hk : builtinKind i = some .method ∨ builtinKind i = some .slot) (hs : splitId i = some (owner, nm)) (hp : plainId i = true) (hb : entryFor table i = some B) (ha : argsOk i ⟨.ref x :: rest, []⟩)
    (hc : wpAny (model prog w) A.in1 (B ⟨.ref x :: rest, []⟩) (fun fin s' => ∃ v, fin = .done (.ret v) ∧ Q v s') E s) :
    wpAny (model prog w) A (call (.builtin i) (.ref x :: rest)) Q E s := by
  refine wpAny_call (codeAny_call_builtin hp hb ?_)
  have hc' := wpAny_mono hc (Q' := fun fin s' => match fin with
      | .done f => wants Q E (.ok f) s'
      | .again c' => c'.quiet = true ∧ codeAny (model prog w) A c' (wants Q E) s') (fun fin s' h' => by obtain ⟨v, rfl, hv⟩ := h'; exact hv) fun _ _ h' => h'
  rcases hk with hk | hk
  · exact check_meth hk hs (sub_isinst X I hm) ha hc'
  · exact check_slot hk hs (sub_isinst X I hm) ha hc'

theorem kind_append : builtinKind "list.append" = some .method := by decide +kernel
theorem split_append : splitId "list.append" = some ("list", "append") := by decide +kernel
theorem kind_pop : builtinKind "list.pop" = some .method := by decide +kernel
theorem split_pop : splitId "list.pop" = some ("list", "pop") := by decide +kernel
theorem kind_lgi : builtinKind "list.__getitem__" = some .method ∨ builtinKind "list.__getitem__" = some .slot := by decide +kernel
theorem split_lgi : splitId "list.__getitem__" = some ("list", "__getitem__") := by decide +kernel
theorem kind_lsi : builtinKind "list.__setitem__" = some .method ∨ builtinKind "list.__setitem__" = some .slot := by decide +kernel
theorem split_lsi : splitId "list.__setitem__" = some ("list", "__setitem__") := by decide +kernel
theorem kind_len : builtinKind "list.__len__" = some .method ∨ builtinKind "list.__len__" = some .slot := by decide +kernel
theorem split_len : splitId "list.__len__" = some ("list", "__len__") := by decide +kernel
theorem kind_it : builtinKind "list.__iter__" = some .method ∨ builtinKind "list.__iter__" = some .slot := by decide +kernel
theorem split_it : splitId "list.__iter__" = some ("list", "__iter__") := by decide +kernel
theorem kind_init : builtinKind "list.__init__" = some .method ∨ builtinKind "list.__init__" = some .slot := by decide +kernel
theorem split_init : splitId "list.__init__" = some ("list", "__init__") := by decide +kernel
theorem kind_lga : builtinKind "list.__getattribute__" = some .method ∨ builtinKind "list.__getattribute__" = some .slot := by decide +kernel
theorem split_lga : splitId "list.__getattribute__" = some ("list", "__getattribute__") := by decide +kernel

theorem acc_append {its : Array Value} {n : Nat} {v : Value} {Q : Value → Shared → Prop} (F : Fr h₀ L s.heap m) (X₀ : K.In h₀) (N : News h₀ L s.heap news) (I : InstAt s.heap x (accO C dx its n) C od) (hm : mroIn K C (.type "list") = some true)
    (U : Upd x (accO C dx its n) (accO C dx (its.push v) (n + 1)) news news') (h : ∀ h', Fr h₀ L h' m → News h₀ L h' news' → Q .none { s with heap := h' }) (hsz : its.size ≤ sizeLine) :
    wpAny (model prog w) A (call (.builtin "list.append") [.ref x, v]) Q E s := by
  have ho := I.at_
  refine sub_call (X₀.keeps F.keep) I hm (.inl kind_append) split_append (by decide +kernel) entry_list_append (PySem.F.args_list_append_2 _ _) ?_
  show wpAny _ _ (updateSeq x (·.push v) >>= fun _ => ret .none) _ _ s
  have e : Obj.mapSeq (fun y => y.push v) (accO C dx its n) = accO C dx (its.push v) (n + 1) := by simp [Obj.mapSeq]
  have U' := upd_at (Obj.mapSeq fun y => y.push v) F N U e rfl
  exact wpAny_bind (wpAny_updateSeq ho rfl (wpAny_pure ⟨.none, rfl, h _ U'.1 U'.2⟩) hsz (by rw [Array.size_push]; omega))
end
end Mine
end

section
open PySem PySem.W PyProof.Rows PySem.Calls PySem.Spec
open Sem (wp)
open MeetsSeq
set_option Elab.async false
set_option maxRecDepth 100000
namespace Mine
section
variable {prog : Program} {w : World} {A : Around} {E : Value → Shared → Prop} {s : Shared} {K : Frag} {x C L dx : Addr} {h₀ : Heap} {m : Str → Option Value} {ox : Obj} {od : Option Obj} {name : Str} {news news' : List (Addr × Obj)}
variable {es : List DictEntry} {n : Nat} {its : Array Value}

theorem sub_special {M : Model} {nm : Str} {id : String} {args : List Value} {T : String} {Q : Option Value → Shared → Prop} (X : K.In s.heap) (I : InstAt s.heap x ox C od) (hs : findIn K (.ref C) nm = some (some (.builtin id))) (S : Slot T nm id)
    (h : wpAny M A (call (.builtin id) (.ref x :: args)) (fun v => Q (some v)) E s) : wpAny M A (callSpecial? (.ref x) nm args) Q E s := by
  refine wpAny_bind (wpAny_bind (I.type.here ((looks_findIn X hs).here (wpAny_holding ?_))))
  rw [S.bind]
  exact wpAny_bind (wpAny_pure (wpAny_bind (wpAny_mono h (fun _ _ z => wpAny_pure z) fun _ _ z => z)))

theorem sub_key {M : Model} {k : Value} {nm : Str} {Q : Value → Shared → Prop} (X : K.In s.heap) (I : InstAt s.heap x ox C od) (hq : noSeq K C = true) (h : Q k s) : wpAny M A (sequenceKey (.ref x) k nm) Q E s := by
  unfold sequenceKey
  refine wpAny_bind (I.type.here ?_)
  refine wpAny_bind ((anyM_none X hq).here ?_)
  rw [if_pos (show (!false) = true from rfl)]
  exact wpAny_pure h

theorem acc_item {k : Int} {t : Tok} {v : Value} {Q : Value → Shared → Prop} (X : K.In s.heap) (I : InstAt s.heap x (accO C dx its n) C od) (hm : mroIn K C (.type "list") = some true) (hq : noSeq K C = true)
    (hs : findIn K (.ref C) "__getitem__" = some (some (.builtin "list.__getitem__"))) (h0 : 0 ≤ k) (hfit : k < 2 ^ 63) (hx : its[k.toNat]? = some v) (h : Q v s) : wpAny (model prog w) A (getItem (.ref x) (.int k t)) Q E s := by
  unfold getItem
  try with_reducible refine wpAny_holding ?_
  refine wpAny_bind (sub_key X I hq ?_)
  refine wpAny_bind (sub_special X I hs slot_list_getitem (sub_call X I hm kind_lgi split_lgi (by decide +kernel) entry_list_getitem (args_list_getitem _ _) ?_))
  show wpAny _ _ (Builtin.List.listSubscript? (.int k t) >>= _) _ _ s
  refine wpAny_bind (wpAny_listSubscript_int (fitsIndex_of h0 hfit) ?_)
  clear hfit
  obtain ⟨j, rfl⟩ := Int.eq_ofNat_of_zero_le h0
  have hx' : its[j]? = some v := hx
  show wpAny _ _ ((seqItemAt x j >>= fun r => pure (r.map (j, ·))) >>= _) _ _ s
  refine wpAny_bind (wpAny_bind (wpAny_seqItemAt I.at_ rfl (wpAny_pure ?_)))
  rw [hx']
  first
    | exact wpAny_bind (wpAny_pure (wpAny_pure ⟨v, rfl, wpAny_pure h⟩))
    | exact wpAny_pure ⟨v, rfl, wpAny_pure h⟩

theorem acc_slice {sl : Addr} {vl vu vs : Value} {lo hi st : Option Int} {Q : Value → Shared → Prop} (X : K.In s.heap) (I : InstAt s.heap x (accO C dx its n) C od) (hm : mroIn K C (.type "list") = some true) (hq : noSeq K C = true)
    (hs : findIn K (.ref C) "__getitem__" = some (some (.builtin "list.__getitem__"))) (hsl : s.heap.IsSliceOf sl vl vu vs) (pl : IsPart vl lo) (pu : IsPart vu hi) (ps : IsPart vs st) (h0 : st ≠ some 0)
    (h : Q (.ref s.heap.objs.size) { s with heap := s.heap.push { cls := .type "list", data := .seq (slicePick its lo hi st) } }) (hsz : its.size ≤ sizeLine) :
    wpAny (model prog w) A (getItem (.ref x) (.ref sl)) Q E s := by
  obtain ⟨os, hos, hcs, hds⟩ := id hsl
  have hTs : s.TypeIs (.ref sl) "slice" := ⟨os, hos, hcs⟩
  unfold getItem
  try with_reducible refine wpAny_holding ?_
  refine wpAny_bind (sub_key X I hq ?_)
  refine wpAny_bind (sub_special X I hs slot_list_getitem (sub_call X I hm kind_lgi split_lgi (by decide +kernel) entry_list_getitem (args_list_getitem _ _) ?_))
  show wpAny _ _ (Builtin.List.listSubscript? (.ref sl) >>= _) _ _ s
  refine wpAny_bind ?_
  unfold Builtin.List.listSubscript?
  refine wpAny_bind (wpAny_specialOf hTs slice_no_index ?_)
  simp only [Option.isNone_none, if_true]
  refine wpAny_pure ?_
  show wpAny _ _ (typeOf (.ref sl) >>= _) _ _ s
  refine wpAny_bind (wpAny_typeOf hTs ?_)
  rw [if_neg (by decide)]
  rw [listSliceParts_eq]
  have hstep : ¬ ((rawPart st == rawInt 0) = true) := by
    cases st with
    | none => exact Bool.false_ne_true
    | some c =>
      intro hh
      have : c = 0 := by simpa [rawPart, rawInt] using hh
      exact h0 (by rw [this])
  refine wpAny_bind (wpAny_bind (wpAny_field hos hds (x := vs) rfl (wpAny_bind (wpAny_listPart ps ?_))))
  rw [if_neg hstep]
  refine wpAny_bind (wpAny_field hos hds (x := vl) rfl (wpAny_bind (wpAny_listPart pl ?_)))
  refine wpAny_bind (wpAny_field hos hds (x := vu) rfl (wpAny_bind (wpAny_listPart pu (wpAny_pure ?_))))
  refine wpAny_bind (m := Builtin.List.listItems (.ref x)) ?_
  unfold Builtin.List.listItems
  refine wpAny_bind (wpAny_seqItems I.at_ rfl (wpAny_pure ?_))
  refine wpAny_bind (wpAny_of_eq (sliceIndices_raw lo hi st its.size h0) ?_)
  exact wpAny_bind (wpAny_newObj_type (wpAny_pure ⟨_, rfl, wpAny_pure h⟩) (Nat.le_trans (slicePick_size_le its lo hi st) hsz))
end
end Mine
end

section
open PySem PySem.W PyProof.Rows PySem.Calls PySem.Spec
set_option Elab.async false
set_option maxRecDepth 100000
namespace Mine
noncomputable def BMain (mg : Str → Option Value) (h : Heap) : Prop := ∃ bm ob, mg "__builtins__" = some (.ref bm) ∧ bm ≠ builtinsNs ∧ h.get? bm = some ob ∧ ob.cls = .type "module" ∧ ob.dict = some builtinsNs ∧ ob.data = .plain
theorem BMain.keeps {mg : Str → Option Value} {h h' : Heap} (B : BMain mg h) (hk : ∀ b o, h.get? b = some o → h'.get? b = some o) : BMain mg h' := let ⟨bm, ob, h1, h2, h3, r⟩ := B; ⟨bm, ob, h1, h2, hk _ _ h3, r⟩
section
variable {prog : Program} {w : World} {A A₀ : Around} {E : Value → Shared → Prop} {s : Shared} {K : Frag} {C L : Addr} {h₀ base : Heap} {m mg mb : Str → Option Value} {news : List (Addr × Obj)} {p : Program} {loose : List Str} {Q : Value → Shared → Prop}
theorem code_defR {env : Env} {outer : List Env} {R : Result → Shared → Prop} {name qual : Str} {params : Arguments} {body : List Stmt} {scope : Scope} {cl : List (Str × Addr)} {dV kV doc pm cdv ct oc : Value} {an od : Option Addr} {osl : Array (Option Value)} {f : Addr} {args : Args} {binds : List (Str × Value)}
    (B : Below A₀ base outer h₀) (F : Fr h₀ L s.heap m) (X₀ : K.In h₀) (N : News h₀ L s.heap news) (T : TopRead p loose mg mb h₀) (BM : BMain mg h₀) (hA : A.frames = some (env :: outer)) (hf : env.frame = some L) (hke : env.scope.kind = .function)
    (ho : K.lookup f = some ⟨oc, od, .func (fnX name qual params body scope cl dV kV doc pm an cdv ct), osl⟩) (hcd : codeIn K cdv qual = true) (hroom : A.depth < recursionLimit)
    (hbind : BindsTo s (fnX name qual params body scope cl dV kV doc pm an cdv ct) args binds) (hloc : ∀ y ∈ binds, scope.names.lookup y.1 = some .local)
    (h : ∀ g L' h₁, Fr h₀ L g m → Fr g L' h₁ (fun y => binds.reverse.lookup y) → News g L' h₁ news → Below A base (env :: outer) g → K.In g → TopRead p loose mg mb g → BMain mg g →
      wpAny (model prog w) (A.deeper (envX qual scope L' f cdv cl)) (execs body (envX qual scope L' f cdv cl))
        (fun fl s' => LeaveK h₀ L m g R (match fl with | .ret v => v | _ => .none) s')
        (fun e s' => wpAny (model prog w) (A.deeper (envX qual scope L' f cdv cl)) (leaving (envX qual scope L' f cdv cl) e) (fun _ s'' => R (.error e) s'') (fun e' s'' => R (.error e') s'') s')
        { s with heap := h₁, toks := s.toks + binds.length })
    (hco : scope.isCoroutine = false) (hgen : scope.isGenerator = false) (hk : scope.kind = .function)
    (hcell : ∀ x ∈ scope.names, x.2 ≠ .cell) : codeAny (model prog w) A (.call (.ref f) args) R s :=
  callX_plain (cl := cl) B F N T.nolimit hA hf hke ((X₀.keeps F.keep) _ _ ho) rfl (codeRec_of (X₀.keeps F.keep) hcd) hroom hbind hloc (fun g L' h₁ FG F' N' B' st _ => h g L' h₁ FG F' N' B' (X₀.keeps st) (T.keeps st) (BM.keeps st)) hcell hco hgen hk
end
end Mine
end

section
open PySem PySem.W PyProof.Rows PySem.Calls PySem.Spec
open Sem (wp)
open MeetsSeq
set_option Elab.async false
set_option maxRecDepth 100000
namespace Mine
noncomputable def SeqAt (h : Heap) (a : Addr) (its : Array Value) : Prop := ∃ o n, h.get? a = some o ∧ o.data = .seq its n
theorem SeqAt.at {h h' : Heap} {a : Addr} {its : Array Value} (x : SeqAt h a its) (hk : ∀ o, h.get? a = some o → h'.get? a = some o) : SeqAt h' a its := let ⟨o, n, e, d⟩ := x; ⟨o, n, hk o e, d⟩
theorem SeqAt.lt {h : Heap} {a : Addr} {its : Array Value} (x : SeqAt h a its) : a < h.objs.size := let ⟨_, _, e, _⟩ := x; Heap.lt_size e
section
variable {prog : Program} {w : World} {A : Around} {E : Value → Shared → Prop} {s : Shared} {K : Frag} {x C L dx : Addr} {h₀ : Heap} {m : Str → Option Value} {ox : Obj} {od : Option Obj} {name : Str} {news news' : List (Addr × Obj)}
variable {es : List DictEntry} {n : Nat} {its : Array Value}

theorem next_item {it l : Addr} {i : Nat} {items} {x : Value} {Q : Option Value → Shared → Prop} (hit : s.heap.IsListIter it l i)
    (hl : SeqAt s.heap l items) (hx : items[i]? = some x)
    (hQ : ∀ h', h'.IsListIter it l (i + 1) → Heap.SameBut it s.heap h' → Q (some x) { s with heap := h' }) :
    wpAny (model prog w) A (pyNext (.ref it)) Q E s := by
  obtain ⟨o, ho, hc, hd⟩ := id hit
  obtain ⟨ol, nl, hol, hdl⟩ := hl
  unfold pyNext
  refine wpAny_bind (wpAny_attempt (wpAny_callSpecial?_slot (name := Str.ofString "__next__") hit.typeIs slot_listiter_next
    (wpAny_call_entry slot_listiter_next hit.typeIs entry_listiter_next ?_ (args_listiter_next _))))
  show wpAny _ _ (field (.ref it) 0 >>= _) _ _ s
  refine wpAny_bind (wpAny_field ho hd (x := .ref l) rfl ?_)
  show wpAny _ _ (if (Value.ref l == Value.none) = true then _ else _) _ _ s
  rw [if_neg (show ¬ ((Value.ref l == Value.none) = true) from Bool.false_ne_true)]
  show wpAny _ _ (field (.ref it) 1 >>= _) _ _ s
  refine wpAny_bind (wpAny_field ho hd (x := .int i 0) rfl ?_)
  show wpAny _ _ (seqItems? (.ref l) >>= _) _ _ s
  refine wpAny_bind (wpAny_seqItems hol hdl ?_)
  simp only [Int.toNat_natCast, hx]
  refine wpAny_bind (wpAny_setField ho hd (by simp) (wpAny_pure ⟨x, rfl, wpAny_pure (hQ _ ?_ (Heap.SameBut.update ..))⟩))
  exact ⟨_, Heap.get?_update_self _ ho (Obj.isFreed_of_fields (Obj.data_mapFields hd _)), (Obj.cls_mapFields ..).trans hc, by
    rw [Obj.data_mapFields hd]; simp [rawInt]⟩

theorem next_end {it l : Addr} {i : Nat} {items} {Q : Option Value → Shared → Prop} (hh : A.handled = none)
    (hit : s.heap.IsListIter it l i) (hl : SeqAt s.heap l items) (hx : items[i]? = none)
    (hQ : ∀ h', Heap.ExtBut it s.heap h' → Q none { s with heap := h' }) : wpAny (model prog w) A (pyNext (.ref it)) Q E s := by
  obtain ⟨o, ho, hc, hd⟩ := id hit
  obtain ⟨ol, nl, hol, hdl⟩ := hl
  unfold pyNext
  refine wpAny_bind (wpAny_attempt (wpAny_callSpecial?_slot (name := Str.ofString "__next__") hit.typeIs slot_listiter_next
    (wpAny_call_entry slot_listiter_next hit.typeIs entry_listiter_next ?_ (args_listiter_next _))))
  show wpAny _ _ (field (.ref it) 0 >>= _) _ _ s
  refine wpAny_bind (wpAny_field ho hd (x := .ref l) rfl ?_)
  show wpAny _ _ (if (Value.ref l == Value.none) = true then _ else _) _ _ s
  rw [if_neg (show ¬ ((Value.ref l == Value.none) = true) from Bool.false_ne_true)]
  show wpAny _ _ (field (.ref it) 1 >>= _) _ _ s
  refine wpAny_bind (wpAny_field ho hd (x := .int i 0) rfl ?_)
  show wpAny _ _ (seqItems? (.ref l) >>= _) _ _ s
  refine wpAny_bind (wpAny_seqItems hol hdl ?_)
  simp only [Int.toNat_natCast, hx]
  refine wpAny_bind (wpAny_rule (wpAny_bind (wpAny_setField ho hd (by simp) ?_)))
  show wpAny _ _ (newExc (.type "StopIteration") [] >>= _) _ _ _
  refine wpAny_bind ?_
  simp only [newExc, newTuple]
  refine wpAny_bind (wpAny_newObj_type ?_ (by size_fits))
  refine wpAny_bind (m := firstArgMember _ _) (wpAny_of_eq (a := Value.none) (by first | rfl | (simp only [firstArgMember]; rfl)) ?_)
  refine wpAny_newObj_type ?_ (by size_fits)
  simp only [raiseNew]
  refine wpAny_bind (wpAny_handled ?_)
  rw [show A.in1.handled = none from hh]
  refine wpAny_bind (wpAny_pure (wpAny_throw ?_))
  refine wpAny_bind (wpAny_isInstance (T := "StopIteration") (b := true) ⟨_, Heap.get?_push_size _ rfl, rfl⟩ isSubtype_stop ?_)
  exact wpAny_pure (hQ _ (((Heap.SameBut.update ..).extBut.push _).push _))

theorem walks_acc (hh : A.handled = none) (I ax : Addr) (hne : ax ≠ I) (items : Array Value) (Ts : Nat → Addr) (vals : Nat → Array Value)
    (hit : ∀ j, j < items.size → items[j]? = some (.ref (Ts j))) (hTI : ∀ j, j < items.size → Ts j ≠ I) :
    WalksU prog w A I (I :: ax :: (List.range items.size).map Ts) [I] items.size (fun j v => v = vals j)
      (fun j h => h.IsListIter I ax j ∧ SeqAt h ax items ∧ ∀ k, k < items.size → h.IsTuple (Ts k) (vals k))
      (fun j T h => (j < items.size ∧ T = Ts j) ∧ h.IsListIter I ax (j + 1) ∧ SeqAt h ax items ∧ ∀ k, k < items.size → h.IsTuple (Ts k) (vals k)) where
  sub := fun b hb => by simp at hb; simp [hb]
  frame := fun _ _ _ st hk => ⟨st.1.at fun o e => hk I (by simp) o e, st.2.1.at fun o e => hk ax (by simp) o e,
    fun k hk' => (st.2.2 k hk').at fun o e => hk (Ts k) (List.mem_cons_of_mem _ (List.mem_cons_of_mem _ (List.mem_map.mpr ⟨k, List.mem_range.mpr hk', rfl⟩))) o e⟩
  item := fun i s Q E hi st hQ => by
    refine next_item st.1 st.2.1 (x := .ref (Ts i)) (hit i hi) fun h' hit' hs' => ?_
    have tup : ∀ k, k < items.size → h'.IsTuple (Ts k) (vals k) := fun k hk' => (st.2.2 k hk').extBut hs'.extBut (hTI k hk')
    exact hQ (Ts i) (vals i) h' s.toks rfl (tup i hi) ⟨⟨hi, rfl⟩, hit', st.2.1.at fun o e => hs'.extBut _ o hne e, tup⟩ fun b o hb e => hs'.extBut b o (fun h => hb (by simp [h])) e
  go := fun _ _ _ _ _ s Q _ hm hQ => wpAny_letOwnedTupleGo_listiter hm.2.1 (hQ s.heap hm.2 fun _ _ _ e => e)
  apart := fun j T _ hm hmem => by
    rcases List.mem_cons.mp hmem with e | e
    · exact hTI j hm.1.1 (hm.1.2 ▸ e)
    · cases e
  done := fun s Q E st hQ => next_end hh st.1 st.2.1 (by simp) fun h' he' => hQ h' s.toks fun b o hb e => he' b o (fun h => hb (by simp [h])) e
  self := fun _ _ _ _ st hQ => wpAny_pyIter_listiter st.1 hQ

theorem iter_acc {Q : Value → Shared → Prop} (X : K.In s.heap) (I : InstAt s.heap x (accO C dx its n) C od) (hm : mroIn K C (.type "list") = some true) (hs : findIn K (.ref C) "__iter__" = some (some (.builtin "list.__iter__")))
    (hQ : Q (.ref s.heap.objs.size) { s with heap := s.heap.push { cls := .type "list_iterator", data := .fields #[.ref x, .int 0 0] } }) :
    wpAny (model prog w) A (pyIter (.ref x)) Q E s := by
  unfold pyIter specialOf
  refine wpAny_bind (wpAny_bind (I.type.here ((looks_findIn X hs).here ?_)))
  have hb := slot_list_iter.bind
  have hc : wpAny (model prog w) A (call (.builtin "list.__iter__") [.ref x]) (fun it s' => s'.TypeIs it "list_iterator" ∧ Q it s') E s := by
    refine sub_call X I hm kind_it split_it (by decide +kernel) entry_list_iter (args_list_iter _) ?_
    show wpAny _ _ (do ret (← newFields "list_iterator" [.ref x, rawInt 0])) _ _ s
    exact wpAny_bind (wpAny_newObj_type (wpAny_pure ⟨_, rfl, ⟨_, Heap.get?_push_size _ rfl, rfl⟩, hQ⟩))
  show wpAny _ A (callSpecialIfBoundUnlessNone? _ "__iter__" _ >>= _) Q E s
  refine wpAny_bind ?_
  simp only [callSpecialIfBoundUnlessNone?, bindSpecialIfBound?, specialOf]
  refine wpAny_holding (wpAny_bind (wpAny_bind (wpAny_bind (I.type.here ((looks_findIn X hs).here ?_)))))
  simp only [hb]
  have fin : ∀ (refuse : Sem Value) (Q' : Option Value → Shared → Prop), (∀ it s', s'.TypeIs it "list_iterator" ∧ Q it s' → Q' (some it) s') →
      wpAny (model prog w) A (if (Value.builtin "list.__iter__" == Value.none) = true then (refuse >>= fun v => pure (some v)) else (call (.builtin "list.__iter__") [.ref x] >>= fun v => pure (some v))) Q' E s := by
    intro refuse Q' hQ'
    simp only [builtin_beq_none, Bool.false_eq_true, if_false]
    exact wpAny_bind (wpAny_mono hc (fun v s' h' => wpAny_pure (hQ' v s' h')) fun _ _ h' => h')
  refine wpAny_bind (wpAny_askSetting (wpAny_ite ?_))
  split
  · exact wpAny_bind (wpAny_pure (wpAny_pure (fin _ _ fun it s' h' => wpAny_bind (wpAny_specialOf h'.1 slot_listiter_next.lookup (wpAny_pure h'.2)))))
  · exact wpAny_tryCatch (wpAny_bind (wpAny_pure (wpAny_pure (fin _ _ fun it s' h' => wpAny_bind (wpAny_specialOf h'.1 slot_listiter_next.lookup (wpAny_pure h'.2))))))
end
end Mine
end

section
open PySem PySem.W PyProof.Rows PySem.Calls PySem.Spec
open Sem (wp)
open MeetsSeq
set_option Elab.async false
set_option maxRecDepth 100000
namespace Mine
noncomputable abbrev tabO (ps : Array Value) : Obj := { cls := .none, data := .fields ps }
noncomputable def CodeAt (K : Frag) (c P : Addr) : Prop := ∃ o vs file tf flags tg inF text tt, K.lookup c = some o ∧ o.cls = .type "code" ∧ o.data = .fields vs ∧ vs[11]? = some (.ref P) ∧ vs.getD 11 .none = .ref P ∧ vs.getD 18 .none = .str file tf ∧
    vs.getD 7 .none = .int flags tg ∧ vs.getD 9 .none = .bool inF ∧ vs.getD 10 .none = .int text tt ∧ c ≠ P
section
variable {prog : Program} {w : World} {A : Around} {E : Value → Shared → Prop} {s : Shared} {K : Frag} {x C L dx c P : Addr} {h₀ : Heap} {m mg mb : Str → Option Value} {ox : Obj} {od : Option Obj} {name : Str} {news : List (Addr × Obj)} {nw : Array Value → List (Addr × Obj)} {p : Program} {loose : List Str}
variable {es : List DictEntry} {n : Nat} {its ps : Array Value}

theorem CodeAt.is {h : Heap} (H : CodeAt K c P) (X : K.In h) (hP : h.get? P = some (tabO ps)) (htr : TriplesOk ps.toList) : h.IsCode c P ps :=
  by
  obtain ⟨o, vs, file, tf, flags, tg, inF, text, tt, a, _, d, _, e11, e18, e7, e9, e10, hne⟩ := H
  exact ⟨o, vs, file, tf, flags, tg, inF, text, tt, _, X _ _ a, d, e11, e18, e7, e9, e10, hP, rfl, htr, hne⟩
theorem CodeAt.tab {h : Heap} (H : CodeAt K c P) (X : K.In h) (hP : h.get? P = some (tabO ps)) : h.TableAt c P ps :=
  by
  obtain ⟨o, vs, _, _, _, _, _, _, _, a, hc, d, e, _⟩ := H
  exact ⟨⟨o, vs, X _ _ a, hc, d, e⟩, hP⟩

theorem code_gen {env : Env} {pos : Pos} {qualname : Str} {scope : Scope} {Q : Value → Shared → Prop} (F : Fr h₀ L s.heap m) (X : K.In h₀) (N : News h₀ L s.heap news) (H : CodeAt K c P) (hc : env.code = .ref c) (htr : TriplesOk ps.toList)
    (U : ∀ ps', Upd P (tabO ps) (tabO ps') news (nw ps')) (hnw : nw ps = news)
    (h : ∀ (c' : Value) ps' h' tk, TriplesOk ps'.toList → Fr h₀ L h' m → News h₀ L h' (nw ps') → s.heap.objs.size ≤ h'.objs.size → (∀ b o, b ≠ P → s.heap.get? b = some o → h'.get? b = some o) → Q c' { s with heap := h', toks := tk }) :
    wpAny (model prog w) A (genexprCode env pos qualname scope) Q E s := by
  have hP : s.heap.get? P = some (tabO ps) ∧ P ≠ L ∧ h₀.get? P = none := by
    obtain ⟨pre, post, rfl, _, _, _⟩ := (U ps).split
    exact N (P, tabO ps) (List.mem_append.mpr (.inr (.head _)))
  have XS := X.keeps F.keep
  cases q : codeAmong pos ps.toList with
  | none =>
    refine wpAny_genexprCodeX hc (H.is XS hP.1 htr) (H.tab XS hP.1) q fun c' h' tk hx hge hlt hcode _ htab _ => ?_
    obtain ⟨pre, post, e1, e2, a, b⟩ := (U (ps ++ #[rawInt pos.line, rawInt pos.col, .ref c'])).split
    refine h (.ref c') (ps ++ #[rawInt pos.line, rawInt pos.col, .ref c']) h' tk (by rw [Array.toList_append]; exact TriplesOk_snoc _ _ _ _ htr) ?_ ?_ (Nat.le_of_lt (Nat.lt_of_le_of_lt hge hlt)) hx
    · exact ⟨F.ns.extBut hx (Ne.symm hP.2.1), fun b o e => hx b o (fun q => by rw [q, hP.2.2] at e; cases e) (F.keep b o e), F.above⟩
    · rw [e2]
      intro z hz
      have hz' : z ∈ news ∧ z.1 ≠ P ∨ z = (P, tabO (ps ++ #[rawInt pos.line, rawInt pos.col, .ref c'])) := by
        rcases List.mem_append.mp hz with hz | hz
        · exact .inl ⟨by rw [e1]; exact List.mem_append.mpr (.inl hz), a z hz⟩
        · rcases List.mem_cons.mp hz with hz | hz
          · exact .inr hz
          · exact .inl ⟨by rw [e1]; exact List.mem_append.mpr (.inr (.tail _ hz)), b z hz⟩
      rcases hz' with ⟨hz, hne⟩ | rfl
      · exact ⟨hx _ _ hne (N z hz).1, (N z hz).2⟩
      · exact ⟨htab.2, hP.2⟩
  | some c' =>
    exact wpAny_genexprCode_hit hc (H.is XS hP.1 htr) q (h c' ps s.heap s.toks htr F (by rw [hnw]; exact N) (Nat.le_refl _) fun _ _ _ e => e)


theorem gen_acc {env : Env} {elt iter : Expr} {xa xb : Str} {pa pb pt : Pos} {kt : Nat} {scope : Scope} {cl : List (Str × Addr)} {pos : Pos} {Q : Value → Shared → Prop} {ts : List (Addr × Value × Value)} {Fe : Nat → Value → Prop}
    (hh : A.handled = none) (F : Fr h₀ L s.heap m) (X : K.In h₀) (T : TopRead p loose mg mb h₀) (N : News h₀ L s.heap news) (G : AllBare s.gens)
    (I : InstAt s.heap x (accO C dx its n) C od) (hm : mroIn K C (.type "list") = some true) (hit : findIn K (.ref C) "__iter__" = some (some (.builtin "list.__iter__")))
    (BM : BMain mg h₀) (hgl : env.globals = mainGlobals)
    (hcode : env.code = .ref c) (H : CodeAt K c P) (U : ∀ ps', Upd P (tabO ps) (tabO ps') news (nw ps')) (hnw : nw ps = news) (htr : TriplesOk ps.toList)
    (hxP : x ≠ P) (hts : its = (ts.map fun t => Value.ref t.1).toArray) (htup : ∀ t ∈ ts, s.heap.IsTuple t.1 #[t.2.1, t.2.2])
    (hco : scope.isCoroutine = false) (hclos : closureFor scope env = pure cl) (hcell : ∀ y ∈ scope.names, y.2 ≠ .cell) (h0 : scope.names.lookup (".0" : Str) = some NameKind.local)
    (hxa : scope.names.lookup xa = some .local) (hxb : scope.names.lookup xb = some .local) (hab : xa ≠ xb) (hkind : scope.kind = .function) (hroom : A.depth < recursionLimit)
    (hiter : ∀ (Q : Value → Shared → Prop), Q (.ref x) s → wpAny (model prog w) A (eval iter env) Q E s)
    (helt : ∀ (i : Nat) (t : Addr × Value × Value) (code : Value) (D : Addr) (A' : Around) (E' : Value → Shared → Prop) (u : Shared) m₂, ts[i]? = some t → A'.handled = none → A'.depth ≤ A.depth + 1 → A'.units ≤ A.units + 8 → u.heap.Ns D m₂ → m₂ xa = some t.2.1 → m₂ xb = some t.2.2 → TopRead p loose mg mb u.heap → K.In u.heap →
      wpAny (model prog w) A' (eval elt (genEnv scope cl D code builtinsNs env)) (fun y s₃ => Fe i y ∧ Keeps u s₃) E' u)
    (hQ : ∀ a ps' s', TriplesOk ps'.toList → Fr h₀ L s'.heap m → News h₀ L s'.heap (nw ps') → AllBare s'.gens → s'.os = s.os → (∀ q ∈ nw ps', q.1 ≤ s.heap.objs.size - 1) → L ≤ s.heap.objs.size - 1 →
      Gen prog w A (s.heap.objs.size - 1) a ts.length Fe s' → Q (.ref a) s')
    (hs : ∀ x, genFold iter env x = pure x) :
    wpAny (model prog w) A (eval (.GeneratorExp elt [⟨.Tuple [.Name xa pa, .Name xb pb] kt pt, iter, [], 0⟩] scope pos) env) Q E s := by
  have hP : s.heap.get? P = some (tabO ps) ∧ P ≠ L ∧ h₀.get? P = none := by
    obtain ⟨pre, post, rfl, _, _, _⟩ := (U ps).split
    exact N (P, tabO ps) (List.mem_append.mpr (.inr (.head _)))
  have hlt : x < s.heap.objs.size := Heap.lt_size I.at_
  have hPlt : P < s.heap.objs.size := Heap.lt_size hP.1
  have hLlt : L < s.heap.objs.size := F.ns.lt
  let Ts : Nat → Addr := fun j => (ts[j]?.map fun t => t.1).getD 0
  let vals : Nat → Array Value := fun j => (ts[j]?.map fun t => (#[t.2.1, t.2.2] : Array Value)).getD #[.none, .none]
  have hsz : its.size = ts.length := by rw [hts]; simp
  have at' : ∀ j, j < ts.length → ∃ t, ts[j]? = some t ∧ t ∈ ts := fun j hj => ⟨ts[j], by simp [hj], List.getElem_mem hj⟩
  have hTs : ∀ j, j < its.size → s.heap.IsTuple (Ts j) (vals j) := fun j hj => by
    obtain ⟨t, e, hm⟩ := at' j (hsz ▸ hj)
    simp only [Ts, vals, e, Option.map_some, Option.getD_some]; exact htup t hm
  have hTlt : ∀ j, j < its.size → Ts j < s.heap.objs.size := fun j hj => by obtain ⟨_, e, _⟩ := hTs j hj; exact Heap.lt_size e
  have hTP : ∀ j, j < its.size → Ts j ≠ P := fun j hj e => by
    obtain ⟨o, e', hc, _⟩ := hTs j hj
    rw [e, hP.1] at e'; cases e'; cases hc
  have hidx : ∀ j, j < its.size → its[j]? = some (.ref (Ts j)) := fun j hj => by
    obtain ⟨t, e, _⟩ := at' j (hsz ▸ hj)
    subst hts; simp [Ts, e]
  have W := fun (A' : Around) (hA : A'.handled = none) => (walks_acc (prog := prog) (w := w) hA s.heap.objs.size x (Nat.ne_of_lt hlt) its Ts vals hidx fun j hj => Nat.ne_of_lt (hTlt j hj)).bound
  refine wpAny_GeneratorExp_walksQTD hh hco hclos hcell h0 hxa hxb hab hkind hroom (hiter _ ?_) hs
  refine iter_acc (X.keeps F.keep) I hm hit ?_
  have hlim : s.heap.NoLimit := T.nolimit.keeps F.keep
  have F₂ : Fr h₀ L (s.heap.push { cls := .type "list_iterator", data := .fields #[.ref x, .int 0 0] }) m := F.keeps fun _ _ e => Heap.get?_push_of_some _ e
  have N₂ : News h₀ L (s.heap.push { cls := .type "list_iterator", data := .fields #[.ref x, .int 0 0] }) news := fun q hq => ⟨Heap.get?_push_of_some _ (N q hq).1, (N q hq).2⟩
  refine ⟨hlim.push _, code_gen (s := { s with heap := s.heap.push { cls := .type "list_iterator", data := .fields #[.ref x, .int 0 0] } }) F₂ X N₂ H hcode htr U hnw fun code ps' h₃ tk₃ htr' F₃ N₃ hge hx₃ => ?_⟩
  have hge' : s.heap.objs.size + 1 ≤ h₃.objs.size := by
    have : (s.heap.push { cls := .type "list_iterator", data := .fields #[.ref x, .int 0 0] }).objs.size ≤ h₃.objs.size := hge
    rwa [Heap.size_push] at this
  have hx₃' : ∀ b o, b ≠ P → s.heap.get? b = some o → h₃.get? b = some o := fun b o hb e => hx₃ b o hb (Heap.get?_push_of_some _ e)
  have T₃ := T.keeps F₃.keep
  obtain ⟨bm, ob, b1, b2, b3, b4, b5, b6⟩ := BM.keeps F₃.keep
  refine wpAny_builtinsFor (by rw [hgl]; exact T₃.g) b1 b2 b3 b4 b5 b6 ?_
  have hcI : cStatics < s.heap.objs.size := let ⟨_, hn, _⟩ := hlim; hn.lt
  refine ⟨s.heap.objs.size, _, _, _, _, _, _, (fun _ => true), Fe, rfl, W, (fun i v hv => by
      rcases hv with ⟨hi, rfl⟩
      obtain ⟨t, et, _⟩ := at' i (hsz ▸ hi)
      exact ⟨t.2.1, t.2.2, by simp [vals, et]⟩), ?_, ?_, T₃.nolimit, (fun hmem => by
        rcases List.mem_cons.mp hmem with e | e
        · exact absurd (e ▸ hcI) (Nat.lt_irrefl _)
        · cases e), ?_, ?_⟩
  · refine ⟨⟨_, hx₃ _ _ (Nat.ne_of_gt hPlt) (Heap.get?_push_size _ rfl), rfl, rfl⟩, ⟨_, _, hx₃' _ _ hxP I.at_, rfl⟩, fun k hk => (hTs k hk).at fun o e => hx₃' _ _ (hTP k hk) e⟩
  · intro b hb
    show b < h₃.objs.size
    rcases List.mem_cons.mp hb with rfl | hb
    · exact Nat.lt_of_lt_of_le (Nat.lt_succ_self _) hge'
    · rcases List.mem_cons.mp hb with rfl | hb
      · exact Nat.lt_of_lt_of_le hlt (Nat.le_trans (Nat.le_succ _) hge')
      · obtain ⟨k, hk, rfl⟩ := List.mem_map.mp hb
        exact Nat.lt_of_lt_of_le (hTlt k (List.mem_range.mp hk)) (Nat.le_trans (Nat.le_succ _) hge')
  · intro href hhref
    have inB : ∀ (t : Shared), (∀ b ∈ List.range h₃.objs.size, b ∉ [s.heap.objs.size] → ∀ o, href.get? b = some o → t.heap.get? b = some o) → ∀ b o, h₀.get? b = some o → t.heap.get? b = some o := fun t hkp =>
      fun b o e => hkp b (List.mem_range.mpr (Heap.lt_size (F₃.keep b o e))) (fun hmem => by
        rcases List.mem_cons.mp hmem with e' | e'
        · exact absurd (Nat.lt_trans (Nat.lt_of_lt_of_le (Heap.lt_size (e' ▸ e)) F.above) hLlt) (Nat.lt_irrefl _)
        · cases e') o (hhref b o (F₃.keep b o e))
    refine ⟨fun A' E' i va vb t m₂ hA hD hU hP hn hma hmb hkp => ?_, fun A' E' i va vb t m₂ hA hD hU hP hp hn hma hmb hkp => ?_⟩
    · exact wpAny_pure ⟨rfl, t.heap, t.toks, rfl, fun _ _ e => e⟩
    · obtain ⟨hi, e⟩ := hP
      obtain ⟨tt, et, _⟩ := at' i (hsz ▸ hi)
      simp only [vals, et, Option.map_some, Option.getD_some] at e
      obtain ⟨e1, e2⟩ : va = tt.2.1 ∧ vb = tt.2.2 := by simpa using congrArg Array.toList e
      exact helt i tt code _ A' E' t m₂ et hA hD hU hn (e1 ▸ hma) (e2 ▸ hmb) (T.keeps (inB t hkp)) (X.keeps (inB t hkp))
  · intro a h₅ tk gs hgb hag hsz₅ hk₅ W' hat
    have hpass : (passing (fun _ => true) its.size 0) = List.range ts.length := by simp [passing, hsz]
    rw [hpass] at W'
    refine hQ a ps' _ htr' (F₃.keeps hk₅) (fun q hq => ⟨hk₅ _ _ (N₃ q hq).1, (N₃ q hq).2⟩) (G.push hgb) rfl (fun q hq => ?_) (Nat.le_sub_one_of_lt hLlt) ⟨_, _, _, _, by
        have := W'.imp (P' := Fe) (fun j y hy => by
          obtain ⟨i, hi, hf⟩ := hy
          have : j = i := by
            rcases Nat.lt_or_ge j ts.length with hj | hj
            · simp [hj] at hi; exact hi
            · simp [Nat.not_lt.mpr hj] at hi
          exact this ▸ hf)
        rw [List.length_range] at this
        exact this, hat, (fun i s' st => st.1.typeIs), List.mem_cons_self, ?_, ?_⟩
    · obtain ⟨pre, post, e1, e2, _, _⟩ := (U ps').split
      rw [e2] at hq
      have hq' : q.1 < s.heap.objs.size := by
        rcases List.mem_append.mp hq with hz | hz
        · exact Heap.lt_size (N q (by rw [e1]; exact List.mem_append.mpr (.inl hz))).1
        · rcases List.mem_cons.mp hz with rfl | hz
          · exact hPlt
          · exact Heap.lt_size (N q (by rw [e1]; exact List.mem_append.mpr (.inr (.tail _ hz)))).1
      exact Nat.le_sub_one_of_lt hq'
    · intro b hb
      show b < h₅.objs.size
      rw [hsz₅]
      rcases List.mem_cons.mp hb with rfl | hb
      · exact Nat.lt_succ_self _
      · rcases List.mem_cons.mp hb with rfl | hb
        · exact Nat.lt_succ_of_lt hag
        · exact Nat.lt_succ_of_lt (Nat.lt_trans (List.mem_range.mp hb) hag)
    · intro b hb
      rcases List.mem_cons.mp hb with rfl | hb
      · exact Nat.lt_of_le_of_lt (Nat.sub_le _ _) (Nat.lt_of_lt_of_le (Nat.lt_succ_self _) hge')
      · rcases List.mem_cons.mp hb with rfl | hb
        · exact Nat.sub_lt (Nat.lt_of_le_of_lt (Nat.zero_le _) hlt) Nat.one_pos
        · cases hb
end
end Mine
end

section
open PySem PySem.W PyProof.Rows PySem.Calls PySem.Spec
open Sem (wp)
open MeetsSeq
set_option Elab.async false
set_option maxRecDepth 100000
namespace Mine
theorem args_sum2 (a b : Value) : argsOk "sum" ⟨[a, b], []⟩ := by unfold argsOk; kernel_rfl
section
variable {prog : Program} {w : World} {A : Around} {E : Value → Shared → Prop} {s : Shared} {K L a : Addr} {h₀ : Heap} {m : Str → Option Value} {news : List (Addr × Obj)} {n : Nat} {F : Nat → Value → Prop} {Q : Value → Shared → Prop}

theorem sum0_walk {x : Value} {t₀ : Tok}
    (h : wpAny (model prog w) A.in1 (pyIter x) (fun it s₂ => ∃ I fp wr G n P St val, it = .ref I ∧ WalksS prog w A.in1 I fp wr G n P St ∧ St 0 s₂ ∧ (∀ b ∈ fp, b < s₂.heap.objs.size) ∧
      (∀ i v, P i v → ∃ t, v = .int (val i) t) ∧ (∀ j, j < n → InLong (val j) ∧ InLong (preSum val (j + 1))) ∧
      ∀ s' t', Moved wr G s₂ s' → Q (.int (preSum val n) t') s') E s) :
    wpAny (model prog w) A (call (.builtin "sum") [x, .int 0 t₀]) Q E s := by
  refine call_function_tree F.kind_sum F.plain_sum F.entry_sum (args_sum2 _ _) ?_
  unfold Builtin.«sum»
  simp only [List.length_cons, List.length_nil]
  rw [if_neg (by decide)]
  refine wpAny_bind (wpAny_of_eq (show Builtin.Builtins.bindParams "sum" ["start"] 0 ⟨[.int 0 t₀], []⟩ = pure [some (.int 0 t₀)] from rfl) ?_)
  refine wpAny_bind (wpAny_mono h (fun it s₂ h₂ => ?_) fun _ _ e => e)
  obtain ⟨I, fp, wr, G, n, P, St, val, rfl, W, hst, hfp, hval, hfit, hQ⟩ := h₂
  refine wpAny_bind (wpAny_rule (wpAny_bind (wpAny_mkInt (wpAny_bind (wpAny_pure ?_)))))
  simp only [List.forIn_cons, List.forIn_nil]
  refine wpAny_bind (wpAny_bind (wpAny_bind (wpAny_isInstance (T := "int") (b := false) (typeIs_int _ _ _) PySem.sub_int_str ?_)))
  simp only [Bool.false_eq_true, if_false]
  refine wpAny_pure (wpAny_bind (wpAny_bind (wpAny_isInstance (T := "int") (b := false) (typeIs_int _ _ _) PySem.sub_int_bytes ?_)))
  simp only [Bool.false_eq_true, if_false]
  refine wpAny_pure (wpAny_bind (wpAny_bind (wpAny_isInstance (T := "int") (b := false) (typeIs_int _ _ _) PySem.sub_int_bytearray ?_)))
  simp only [Bool.false_eq_true, if_false]
  refine wpAny_pure (wpAny_pure ?_)
  refine wpAny_bind (wpAny_newObj_type ?_)
  have hSf : s₂.heap.objs.size ∉ fp := fun hm => Nat.lt_irrefl _ (hfp _ hm)
  refine wpAny_pure ⟨plainId_quiet F.plain_sum_loop _, codeAny_sum_loopS W val hval hfit s₂.heap.objs.size hSf n 0 _ s₂.toks 0 rfl (Nat.zero_le _)
    (W.frame 0 s₂ _ _ hst (by first | exact Nat.le_refl _ | exact Nat.le_succ _ | omega) fun b _ o e => Heap.get?_push_of_some _ e) (Heap.get?_push_size _ rfl) fun s' t' hm => ?_⟩
  exact hQ s' t' (hm.drop_new (by first | exact Nat.le_refl _ | exact Nat.le_succ _ | omega))

theorem sum0_gen {t₀ : Tok} (Fh : Fr h₀ L s.heap m) (G : AllBare s.gens) (N : News h₀ L s.heap news) (hn : ∀ q ∈ news, q.1 ≤ K) (X : Gen prog w A K a n F s) (hLK : L ≤ K) (val : Nat → Int) (hval : ∀ j v, F j v → ∃ t, v = .int (val j) t) (hfit : ∀ j, j < n → InLong (val j) ∧ InLong (preSum val (j + 1)))
    (hQ : ∀ s' t', Fr h₀ L s'.heap m → News h₀ L s'.heap news → AllBare s'.gens → s'.os = s.os → Q (.int (preSum val n) t') s') : wpAny (model prog w) A (call (.builtin "sum") [.ref a, .int 0 t₀]) Q E s := by
  obtain ⟨fp, wr, g, St, W, hst, _, _, hfp, hwr⟩ := X
  have W := W.in4_1
  exact sum0_walk (W.self 0 _ _ _ hst ⟨a, _, _, _, _, _, _, val, rfl, W, hst, hfp, hval, hfit, fun s' t' hm => hQ s' t' (Fh.moved hm fun b hb => Nat.lt_of_le_of_lt hLK (hwr b hb))
    (fun q hq => ⟨hm.heap q.1 _ (fun hmem => Nat.lt_irrefl _ (Nat.lt_of_lt_of_le (hwr _ hmem) (hn q hq))) (N q hq).1, (N q hq).2⟩) (G.movedS hm) hm.os⟩)

theorem join_gen {sep : Str} {t : Tok} (Fh : Fr h₀ L s.heap m) (G : AllBare s.gens) (N : News h₀ L s.heap news) (hn : ∀ q ∈ news, q.1 ≤ K) (X : Gen prog w A K a n F s) (hLK : L ≤ K) (tx : Nat → Str) (htx : ∀ j v, F j v → ∃ u, v = .str (tx j) u)
    (hok : JoinOk sep ((List.range n).map tx) = true)
    (hQ : ∀ s' t', Fr h₀ L s'.heap m → News h₀ L s'.heap news → AllBare s'.gens → s'.os = s.os → Q (.str (Txt.join sep ((List.range n).map tx)) t') s')
    (hsz : n ≤ sizeLine) : wpAny (model prog w) A (call (.builtin "str.join") [.str sep t, .ref a]) Q E s :=
  join_rowsK Fh G X hLK tx htx hok (fun s' t' F' G' ho hk => hQ s' t' F' (fun q hq => ⟨hk _ _ (hn q hq) (N q hq).1, (N q hq).2⟩) G' ho) hsz
end
end Mine
end

section
open PySem PySem.W PyProof.Rows PySem.Calls PySem.Spec
open Sem (wp)
open MeetsSeq
set_option Elab.async false
set_option maxRecDepth 100000
namespace Mine
noncomputable abbrev tupO (a b : Value) : Obj := { cls := .type "tuple", data := .seq #[a, b] }
theorem tup_of {h₀ h : Heap} {L a : Addr} {x y : Value} {news : List (Addr × Obj)} (N : News h₀ L h news) (hm : (a, tupO x y) ∈ news) : h.IsTuple a #[x, y] := ⟨_, (N _ hm).1, rfl, _, rfl⟩
section
variable {M : Model} {A : Around} {E : Value → Shared → Prop} {s : Shared} {K : Frag} {D : Addr} {m mg mb : Str → Option Value} {p : Program} {loose : List Str} {Q : Value → Shared → Prop} {x : Str} {pos : Pos} {v code : Value} {scope : Scope} {cl : List (Str × Addr)} {env : Env} {bi : Addr}
theorem genn_L (hn : s.heap.Ns D m) (hv : m x = some v) (h : Q v s) (hk : scope.kind = .function := by rfl) (hl : (genEnv scope cl D code bi env).kindOf x = some .local := by rfl) (hd : (x == ("__debug__" : Str)) = false := by decide) :
    wpAny M A (eval (.Name x pos) (genEnv scope cl D code bi env)) Q E s := wpAny_Name (wpAny_loadName_local hk hl hn hv h) hd
theorem genn_B (X : K.In s.heap) (T : TopRead p loose mg mb s.heap) (hg : env.globals = mainGlobals) (e : nsIn K mainGlobals x = some none) (hv : bootBuiltins x = some v) (hn : x ≠ "__name__") (h : Q v s)
    (hk : scope.kind = .function := by rfl) (hx : (genEnv scope cl D code builtinsNs env).kindOf x = some .globalImplicit := by rfl) (hd : (x == ("__debug__" : Str)) = false := by decide) :
    wpAny M A (eval (.Name x pos) (genEnv scope cl D code builtinsNs env)) Q E s :=
  Name_function_global hk hx (loadGlobal_builtin (env := genEnv scope cl D code builtinsNs env) (by show s.heap.Ns env.globals mg; rw [hg]; exact T.g) (mg_none_of X T.g e) T.b ((T.builtins x hn).trans hv) h) hd
theorem genn_K (X : K.In s.heap) (T : TopRead p loose mg mb s.heap) (hg : env.globals = mainGlobals) (e : nsIn K mainGlobals x = some (some v)) (h : Q v s)
    (hk : scope.kind = .function := by rfl) (hx : (genEnv scope cl D code builtinsNs env).kindOf x = some .globalImplicit := by rfl) (hd : (x == ("__debug__" : Str)) = false := by decide) :
    wpAny M A (eval (.Name x pos) (genEnv scope cl D code builtinsNs env)) Q E s :=
  Name_function_global hk hx (loadGlobal_global (env := genEnv scope cl D code builtinsNs env) (by show s.heap.Ns env.globals mg; rw [hg]; exact T.g) (mg_of X T.g e) h) hd
theorem InstAt_acc {h₀ h : Heap} {L x C dx : Addr} {news : List (Addr × Obj)} {od : Obj} {sl : Array (Option Value)} {its : Array Value} {n : Nat} (N : News h₀ L h news) (h1 : (x, (⟨.ref C, some dx, .seq its n, sl⟩ : Obj)) ∈ news) (h2 : (dx, od) ∈ news) :
    InstAt h x ⟨.ref C, some dx, .seq its n, sl⟩ C (some od) := ⟨(N _ h1).1, rfl, rfl, (N _ h2).1⟩
end
inductive TupsIn (rest : List (Addr × Obj)) : List Value → List (Str × Str) → Prop where
  | nil : TupsIn rest [] []
  | cons {a : Addr} {u t : Tok} {q : Str × Str} {its : List Value} {qs : List (Str × Str)} : (a, tupO (.str q.1 u) (.str q.2 t)) ∈ rest → TupsIn rest its qs → TupsIn rest (.ref a :: its) (q :: qs)
theorem TupsIn.mono {rest rest' : List (Addr × Obj)} {its : List Value} {qs : List (Str × Str)} (h : TupsIn rest its qs) (hs : ∀ p ∈ rest, p ∈ rest') : TupsIn rest' its qs := by
  induction h with
  | nil => exact .nil
  | cons h _ ih => exact .cons (hs _ h) ih
theorem TupsIn.snoc {rest : List (Addr × Obj)} {its : List Value} {qs : List (Str × Str)} {a : Addr} {u t : Tok} {q : Str × Str} (h : TupsIn rest its qs) (hm : (a, tupO (.str q.1 u) (.str q.2 t)) ∈ rest) : TupsIn rest (its ++ [.ref a]) (qs ++ [q]) := by
  induction h with
  | nil => exact .cons hm .nil
  | cons h _ ih => exact .cons h ih
theorem TupsIn.len {rest : List (Addr × Obj)} {its : List Value} {qs : List (Str × Str)} (h : TupsIn rest its qs) : its.length = qs.length := by
  induction h with
  | nil => rfl
  | cons _ _ ih => simp [ih]
theorem TupsIn.rows {rest : List (Addr × Obj)} {its : List Value} {qs : List (Str × Str)} (h : TupsIn rest its qs) :
    ∃ ts : List (Addr × Value × Value), its = ts.map (fun t => Value.ref t.1) ∧ (∀ t ∈ ts, (t.1, tupO t.2.1 t.2.2) ∈ rest) ∧ ts.length = qs.length ∧
      ∀ (i : Nat) t, ts[i]? = some t → ∃ q u v, qs[i]? = some q ∧ t.2.1 = .str q.1 u ∧ t.2.2 = .str q.2 v := by
  induction h with
  | nil => exact ⟨[], rfl, (fun _ h => nomatch h), rfl, fun i t e => by simp at e⟩
  | @cons a u t q _ _ hm _ ih =>
    obtain ⟨ts, e1, e2, e3, e4⟩ := ih
    refine ⟨(a, .str q.1 u, .str q.2 t) :: ts, by rw [e1]; rfl, fun z hz => ?_, by simp [e3], fun i z hz => ?_⟩
    · rcases List.mem_cons.mp hz with rfl | hz
      · exact hm
      · exact e2 z hz
    · cases i with
      | zero => simp at hz; subst hz; exact ⟨q, u, t, rfl, rfl, rfl⟩
      | succ i => simp at hz; obtain ⟨q', u', v', a, b, c⟩ := e4 i z hz; exact ⟨q', u', v', by simpa using a, b, c⟩
noncomputable def lenOf (q : Str × Str) : Int := (q.1.length : Int) + (q.2.length : Int)
noncomputable def lenAll (qs : List (Str × Str)) : Int := (qs.map lenOf).sum
theorem preSum_list (l : List Int) (n : Nat) : preSum (fun j => l.getD j 0) n = (l.take n).sum := by
  induction n with
  | zero => simp [preSum]
  | succ n ih =>
    simp only [preSum, ih]
    by_cases h : n < l.length
    · rw [List.take_succ_eq_append_getElem h, List.sum_append]; simp [List.getD_eq_getElem?_getD, h]
    · rw [List.take_of_length_le (by omega), List.take_of_length_le (by omega)]; simp [List.getD_eq_getElem?_getD, h]
theorem sum_nonneg : ∀ (l : List Int), (∀ x ∈ l, 0 ≤ x) → 0 ≤ l.sum
  | [], _ => by simp
  | x :: l, h => by rw [List.sum_cons]; have := h x (by simp); have := sum_nonneg l fun y hy => h y (by simp [hy]); omega
theorem take_sum_le (l : List Int) (h : ∀ x ∈ l, 0 ≤ x) (n : Nat) : (l.take n).sum ≤ l.sum := by
  have e := congrArg List.sum (List.take_append_drop n l)
  rw [List.sum_append] at e
  have := sum_nonneg (l.drop n) fun x hx => h x (List.mem_of_mem_drop hx)
  omega
theorem mem_le_sum : ∀ (l : List Int) (x : Int), (∀ x ∈ l, 0 ≤ x) → x ∈ l → x ≤ l.sum
  | y :: l, x, h, hx => by
    rw [List.sum_cons]
    have h0 := h y (by simp)
    have h1 := sum_nonneg l fun z hz => h z (by simp [hz])
    rcases List.mem_cons.mp hx with rfl | hx
    · omega
    · have := mem_le_sum l x (fun z hz => h z (by simp [hz])) hx; omega
theorem len_one {qs : List (Str × Str)} (hfit : lenAll qs < 2 ^ 62) {q : Str × Str} (hq : q ∈ qs) : (q.1.length : Int) < 2 ^ 62 ∧ (q.2.length : Int) < 2 ^ 62 := by
  have hpos : ∀ x ∈ qs.map lenOf, 0 ≤ x := by
    intro x hx
    obtain ⟨q, _, rfl⟩ := List.mem_map.mp hx
    unfold lenOf; omega
  have hle := mem_le_sum _ (lenOf q) hpos (List.mem_map_of_mem hq)
  have hle' : lenOf q < 2 ^ 62 := Int.lt_of_le_of_lt hle hfit
  unfold lenOf at hle'
  omega
theorem len_one20 {qs : List (Str × Str)} (hfit : lenAll qs < 2 ^ 20) {q : Str × Str} (hq : q ∈ qs) : q.1.length + q.2.length < 2 ^ 20 := by
  have hpos : ∀ x ∈ qs.map lenOf, 0 ≤ x := by
    intro x hx
    obtain ⟨q, _, rfl⟩ := List.mem_map.mp hx
    unfold lenOf; omega
  have hle := mem_le_sum _ (lenOf q) hpos (List.mem_map_of_mem hq)
  have hle' : lenOf q < 2 ^ 20 := Int.lt_of_le_of_lt hle hfit
  unfold lenOf at hle'
  omega
theorem lens_fit (qs : List (Str × Str)) (hb : lenAll qs < 2 ^ 62) (j : Nat) (hj : j < qs.length) : InLong ((qs.map lenOf).getD j 0) ∧ InLong (preSum (fun j => (qs.map lenOf).getD j 0) (j + 1)) := by
  have hpos : ∀ x ∈ qs.map lenOf, 0 ≤ x := by
    intro x hx
    obtain ⟨q, _, rfl⟩ := List.mem_map.mp hx
    unfold lenOf; omega
  have e : (qs.map lenOf).getD j 0 = (qs.map lenOf)[j]'(by simpa using hj) := by simp [List.getD_eq_getElem?_getD, hj]
  have hm : (qs.map lenOf).getD j 0 ∈ qs.map lenOf := by rw [e]; exact List.getElem_mem _
  have a := hpos _ hm
  have b := mem_le_sum _ _ hpos hm
  unfold lenAll at hb
  rw [preSum_list]
  have c := take_sum_le _ hpos (j + 1)
  have d := sum_nonneg ((qs.map lenOf).take (j + 1)) fun x hx => hpos x (List.mem_of_mem_take hx)
  unfold InLong
  omega
theorem genn_b {M : Model} {A : Around} {E : Value → Shared → Prop} {s : Shared} {D : Addr} {mg mb : Str → Option Value} {p : Program} {loose : List Str} {Q : Value → Shared → Prop} {x : Str} {pos : Pos} {v code : Value} {scope : Scope} {cl : List (Str × Addr)} {env : Env}
    (T : TopRead p loose mg mb s.heap) (hg : env.globals = mainGlobals) (e : mg x = none ∧ x ≠ "__name__") (hv : bootBuiltins x = some v) (h : Q v s)
    (hk : scope.kind = .function) (hx : (genEnv scope cl D code builtinsNs env).kindOf x = some .globalImplicit) (hd : (x == ("__debug__" : Str)) = false) :
    wpAny M A (eval (.Name x pos) (genEnv scope cl D code builtinsNs env)) Q E s :=
  Name_function_global hk hx (loadGlobal_builtin (env := genEnv scope cl D code builtinsNs env) (by show s.heap.Ns env.globals mg; rw [hg]; exact T.g) e.1 T.b ((T.builtins x e.2).trans hv) h) hd
theorem elt_len {prog : Program} {w : World} {A : Around} {E : Value → Shared → Prop} {s : Shared} {D : Addr} {m mg mb : Str → Option Value} {p : Program} {loose : List Str} {code : Value} {cl : List (Str × Addr)} {env : Env} {p1 p2 p3 p4 p5 p6 p7 : Pos} {b1 b2 : Bool} {x y : Str} {u v : Tok}
   (hn : s.heap.Ns D m) (T : TopRead p loose mg mb s.heap) (hg : env.globals = mainGlobals) (hl : mg "len" = none ∧ ("len" : Str) ≠ "__name__") (ha : m "fws" = some (.str x u)) (hb : m "part" = some (.str y v)) (hx : (x.length : Int) < 2 ^ 62) (hy : (y.length : Int) < 2 ^ 62) :
   wpAny (model prog w) A (eval (((Expr.Name (Str.ofString "len") p1).Call [Expr.Name (Str.ofString "fws") p2] [] p3).BinOp .Add ((Expr.Name (Str.ofString "len") p4).Call [Expr.Name (Str.ofString "part") p5] [] p6) p7)
     (genEnv { kind := .function, names := [(Str.ofString ".0", .local), (Str.ofString "fws", .local), (Str.ofString "part", .local), (Str.ofString "len", .globalImplicit)], isGenerator := b1, isCoroutine := b2 } cl D code builtinsNs env)) (fun z s₃ => (∃ t, z = .int (lenOf (x, y)) t) ∧ Keeps s s₃) E s := by
  walk1
  walk1
  refine genn_b T hg hl (by boot_fast) ?_ rfl (by with_unfolding_all rfl) (by decide)
  walk1
  walk1
  refine genn_L hn ha ?_ rfl (by with_unfolding_all rfl) (by decide)
  walk1
  refine len_str (by omega) ?_
  walk1
  refine genn_b (s := { s with toks := s.toks + 1 + 1 }) T hg hl (by boot_fast) ?_ rfl (by with_unfolding_all rfl) (by decide)
  walk1
  walk1
  refine genn_L (s := { s with toks := s.toks + 1 + 1 }) hn hb ?_ rfl (by with_unfolding_all rfl) (by decide)
  walk1
  refine len_str (by omega) ?_
  repeat' walk1
  exact ⟨_, _, rfl, fun _ _ e => e⟩
end Mine
end

section
open PySem PySem.W PyProof.Rows PySem.Calls PySem.Spec
open PySem.Builtin PySem.Builtin.ObjectAttr
open Sem (wp)
open MeetsSeq
set_option Elab.async false
set_option maxRecDepth 100000
namespace Mine
theorem refuse_list (self : Value) (c : Addr) : refuseLoop self "__setattr__" [.ref c, .type "list", .type "object"] = pure () := by
  rw [refuseLoop_ref]
  exact (show refuseLoop self "__setattr__" [.type "list", .type "object"] = refuseLoop self "__setattr__" [.type "object"] by kernel_rfl).trans (PySem.F.store_object.passes self)
section
variable {prog : Program} {w : World} {A : Around} {E : Value → Shared → Prop} {s : Shared} {K : Frag} {x C L dx : Addr} {h₀ : Heap} {m : Str → Option Value} {ox : Obj} {od : Option Obj} {name : Str} {news news' : List (Addr × Obj)}
variable {es es' : List DictEntry} {n n' : Nat} {its : Array Value} {v : Value} {expr : Bool}

theorem Gen.toks {L a : Addr} {F : Nat → Value → Prop} {t : Tok} (X : Gen prog w A L a n F s) (h : s.toks ≤ t) : Gen prog w A L a n F { s with toks := t } :=
  by
  obtain ⟨fp, wr, g, St, W, hst, r⟩ := X
  exact ⟨fp, wr, g, St, W, W.frame 0 s _ _ hst h fun _ _ _ e => e, r⟩

theorem acc_get {Q : Value → Shared → Prop} (X : K.In s.heap) (I : InstAt s.heap x ox C od) (hm : mroIn K C (.type "list") = some true) (hga : findIn K (.ref C) "__getattribute__" = some (some (.builtin "list.__getattribute__"))) (hk : findIn K (.ref C) "__getattr__" = some none)
    (hf : findObj K C od name = some (.value v)) (hh : handedIn v = true) (h : Q v { s with toks := s.toks + 1 }) : wpAny (model prog w) A (getAttr (.ref x) name expr) Q E s := by
  obtain ⟨hh', g, d, t, os⟩ := s
  have L0 := I.type (M := model prog w)
  have L1 := looks_findIn (M := model prog w) X hga
  have L2 := looks_findIn (M := model prog w) X hk
  have L3 := looks_find (M := model prog w) X I hf
  have hb := PySem.F.slot_list_getattribute.bind (.ref x)
  unfold getAttr getAttrBy
  refine wpAny_bind (wpAny_mkText (wpAny_holding (wpAny_bind (L0.at (wpAny_bind (L1.at ?_))))))
  show wpAny _ _ (getAttrByItsOwn _ _ _ _ _ _) _ _ _
  unfold getAttrByItsOwn
  refine wpAny_bind (m := hookBefore (.ref C)) (L2.at ?_)
  refine wpAny_bind (wpAny_attempt (wpAny_holding ?_))
  unfold callGetattribute
  rw [show (expr && onTheHeap (Value.builtin "list.__getattribute__")) = false from by simp [onTheHeap]]
  simp only [Bool.false_eq_true, if_false]
  unfold boundAndCalled
  rw [hb]
  refine wpAny_bind (wpAny_pure ?_)
  refine sub_call (s := { heap := hh', gens := g, drawn := d, toks := t + 1, os := os }) X I hm kind_lga split_lga (by decide +kernel) PySem.F.entry_list_ga (PySem.F.args_list_getattribute_2 _ _) ?_
  unfold Builtin.«object.__getattribute__»
  refine wpAny_bind (wpAny_pure (wpAny_bind (wpAny_pure (wpAny_bind (L0.at (wpAny_bind (L3.at ?_)))))))
  refine wpAny_pure ⟨v, rfl, ?_⟩
  show wpAny _ _ (handedOut v) _ _ _
  rw [handedOut_of hh]; exact wpAny_pure h

theorem acc_own {Q : Value → Shared → Prop} {attr : Option Value} (F : Fr h₀ L s.heap m) (X₀ : K.In h₀) (I : InstAt s.heap x (accO C dx its n') C (some (dictOf es n))) (hm : mroIn K C (.type "list") = some true) (hga : findIn K (.ref C) "__getattribute__" = some (some (.builtin "list.__getattribute__"))) (hk : findIn K (.ref C) "__getattr__" = some none)
    (hh : hasDictIn K C = true) (ha : findIn K (.ref C) name = some attr) (hn : noGet K attr = true) (hl : getL name es = some (some v)) (hv : handedIn v = true) (h : Q v { s with toks := s.toks + 1 }) : wpAny (model prog w) A (getAttr (.ref x) name expr) Q E s :=
  acc_get (X₀.keeps F.keep) I hm hga hk (findObj_own hh ha hn hl) hv h

noncomputable def listOver (K : Frag) (C : Addr) : Bool := (clsIn K C).any fun cd => match cd.mro with | [.ref _, .type a, .type b] => a == "list" && b == "object" | _ => false
theorem listOver_mro {cd : ClassData} (h : (match cd.mro with | [.ref _, .type a, .type b] => a == "list" && b == "object" | _ => false) = true) : ∃ c, cd.mro = [.ref c, .type "list", .type "object"] := by
  split at h
  · rename_i c a b e
    obtain ⟨h1, h2⟩ := Bool.and_eq_true_iff.mp h
    exact ⟨c, by rw [e, beq_iff_eq.mp h1, beq_iff_eq.mp h2]⟩
  · cases h
theorem osa_openL {R : Result → Shared → Prop} {tk : Tok} {r : Option Value} (X : K.In s.heap) (I : InstAt s.heap x ox C od) (hp : listOver K C = true) (ht : takerIn K C name = some r)
    (h : ∀ b, wpAny (model prog w) A.in1 (match r with | some a => setByDescriptor a (.ref x) v | none => storeInOwnDict (.ref x) (.ref C) (.str name tk) name v b)
      (fun fin s' => match fin with | .done f => R (.ok f) s' | .again c' => c'.quiet = true ∧ codeAny (model prog w) A c' R s') (fun e s' => R (.error e) s') s) :
    codeAny (model prog w) A (.call (.builtin "object.__setattr__") ⟨[.ref x, .str name tk, v], []⟩) R s := by
  have SF := PySem.F.store_object
  obtain ⟨cd, hc, ho⟩ := any_some hp
  obtain ⟨c, em⟩ := listOver_mro ho
  have sub : Looks (model prog w) s.heap (isInstance (.ref x) (.type "object")) true := I.type.andThen (looks_mroIn X (by unfold mroIn; rw [hc, Option.bind_some, if_neg (by rw [em]; simp), em]; rfl))
  refine codeAny_call_builtin SF.slot.plain SF.entry (@check_slot (model prog w) _ _ s "object.__setattr__" "object" "__setattr__" (.ref x) [.str name tk, v] [] _ SF.kind SF.split sub (SF.args (.ref x) (.str name tk) v) ?_)
  obtain ⟨attr, ha, hr⟩ := Option.bind_eq_some_iff.mp ht
  have hm : Looks (model prog w) s.heap (mroOf (.ref C)) cd.mro := (looks_clsIn X hc).andThen .now
  have L3 : Looks (model prog w) s.heap (storeTaker? attr) r := by
    cases attr with
    | none => cases hr; exact .now
    | some a =>
      obtain ⟨b, hb, rfl⟩ := Option.map_eq_some_iff.mp hr
      refine (looks_takesIn X hb).andThen ?_
      cases b <;> exact .now
  rw [osa_eq, refuse_eq]
  refine wpAny_bind (wpAny_bind (I.type.here (wpAny_bind (hm.here ?_))))
  rw [em, refuse_list]
  refine wpAny_pure (wpAny_bind (I.type.here (wpAny_bind ((looks_findIn X ha).here (wpAny_bind (L3.here ?_))))))
  exact h _

theorem osa_dictL {R : Result → Shared → Prop} {od od' : Obj} {tk : Tok} {pre post : List (Addr × Obj)} {es : List DictEntry} (F : Fr h₀ L s.heap m) (N : News h₀ L s.heap (pre ++ (dx, od) :: post)) (X : K.In s.heap)
    (I : InstAt s.heap x ox C (some od)) (hd : ox.dict = some dx) (hp : listOver K C = true) (ht : takerIn K C name = some none) (hh : (clsIn K C).any (·.hasDict) = true)
    (hl : (lookIn name od).isSome = true) (h1 : ∀ p ∈ pre, p.1 ≠ dx) (h2 : ∀ p ∈ post, p.1 ≠ dx)
    (e : Obj.putName name (PyData.keyHash w.params name) (.str name s.toks) v od = od') (e' : od'.data = .dict es.toArray n) (hz : es.length ≤ 1000)
    (h : ∀ h', Fr h₀ L h' m → News h₀ L h' (pre ++ (dx, od') :: post) → R (.ok (.ret .none)) { s with heap := h', toks := s.toks + 1 }) :
    codeAny (model prog w) A (.call (.builtin "object.__setattr__") ⟨[.ref x, .str name tk, v], []⟩) R s := by
  refine osa_openL X I hp ht fun b => ?_
  obtain ⟨cd, hc, hd'⟩ := any_some hh
  obtain ⟨U1, U2⟩ := news_upd (f := Obj.putName name (PyData.keyHash w.params name) (.str name s.toks) v) F N h1 h2 e (by obtain ⟨_, _, dd, _⟩ := od'; cases e'; rfl)
  have D := (N (dx, od) (by simp)).1
  have D' := (U2 (dx, od') (by simp)).1
  obtain ⟨hx, hcl, hn, -⟩ := I
  obtain ⟨oc, odi, oda, osl⟩ := ox
  dsimp only at hcl hd
  subst hcl hd
  refine wpAny_bind (wpAny_pure (wpAny_bind (wpAny_bind (wpAny_loadPart hx (wpAny_bind ((looks_clsIn X hc).here ?_))))))
  rw [hd']
  refine wpAny_pure (a := some dx) (wpAny_bind (wpAny_pure (wpAny_bind ?_)))
  unfold nsSet
  refine wpAny_bind (wpAny_bind (wpAny_askSetting (wpAny_pure (wpAny_bind (wpAny_mkText (wpAny_bind (wpAny_loadPart D ?_)))))))
  unfold lookIn at hl
  split at hl
  · rename_i es₀ n₀ q
    rw [q]
    dsimp only
    have c : (!es₀.any (·.key.isStr name) && es₀.any (·.refKey)) = false := by
      rw [← Array.any_toList, ← Array.any_toList]
      split at hl
      · rename_i en he
        rw [List.any_eq_true.mpr ⟨en, List.mem_of_find?_eq_some he, List.find?_some he⟩]; rfl
      · split at hl
        · cases hl
        · rename_i z; rw [Bool.not_eq_true] at z; rw [z, Bool.and_false]
    rw [aRefKeyMayBeTheName_at, c]
    refine wpAny_updatePart D ?_
    refine wpAny_bind (wpAny_lookBehind D' (by rw [e']; exact pastItsLine_dict (by rw [List.size_toArray, sizeLine_eq]; omega)) ?_)
    exact wpAny_pure (h _ U1 U2)
  · cases hl

theorem acc_setA {Q : Unit → Shared → Prop} (F : Fr h₀ L s.heap m) (X₀ : K.In h₀) (N : News h₀ L s.heap news) (I : InstAt s.heap x ox C (some (dictOf es n))) (hd : ox.dict = some dx)
    (hs : findIn K (.ref C) "__setattr__" = some (some (.builtin "object.__setattr__"))) (hp : listOver K C = true) (ht : takerIn K C name = some none) (hh : hasDictIn K C = true) (hl : (getL name es).isSome = true)
    (e : (putL name (PyData.keyHash w.params name) (.str name (s.toks + 1)) v es, putN name es n) = (es', n')) (U : Upd dx (dictOf es n) (dictOf es' n') news news') (hz : es'.length ≤ 1000)
    (h : ∀ h', Fr h₀ L h' m → News h₀ L h' news' → Q () { s with heap := h', toks := s.toks + 2 }) :
    wpAny (model prog w) A (setAttr (.ref x) name v) Q E s := by
  obtain ⟨pre, post, rfl, rfl, a, b⟩ := U.split
  obtain ⟨e1, e2⟩ := Prod.mk.inj e
  exact set_plain (X₀.keeps F.keep) I hs (osa_dictL (s := { s with toks := s.toks + 1 }) F N (X₀.keeps F.keep) I hd hp ht hh hl a b (by rw [putName_dict, e1, e2]) rfl hz fun h' F' N' => h h' F' N')
end
end Mine
end

section
open PySem PySem.W PyProof.Rows PySem.Calls PySem.Spec
open PySem.Builtin PySem.Builtin.ObjectAttr
open Sem (wp)
open MeetsSeq
set_option Elab.async false
set_option maxRecDepth 100000
namespace Mine
theorem slot_md_get : Slot "method_descriptor" "__get__" "method_descriptor.__get__" := .of (owner := "method_descriptor") (n := "__get__") (by rw [typeLookup_type, builtinLookup_eq_fast]; kernel_rfl) (by decide +kernel) (by decide +kernel) (by decide +kernel)
  (by first | exact .inl (by decide +kernel) | exact .inr (by decide +kernel)) (by rw [isSubtype_type]; kernel_rfl)
theorem entry_md_get : entryFor table "method_descriptor.__get__" = some Builtin.«method_descriptor.__get__» := entryFor_of_tree (by kernel_rfl)
theorem args_md_get (a b c : Value) : argsOk "method_descriptor.__get__" ⟨[a, b, c], []⟩ := by unfold argsOk; kernel_rfl
theorem slot_wd_get : Slot "wrapper_descriptor" "__get__" "wrapper_descriptor.__get__" := .of (owner := "wrapper_descriptor") (n := "__get__") (by rw [typeLookup_type, builtinLookup_eq_fast]; kernel_rfl) (by decide +kernel) (by decide +kernel) (by decide +kernel)
  (by first | exact .inl (by decide +kernel) | exact .inr (by decide +kernel)) (by rw [isSubtype_type]; kernel_rfl)
theorem entry_wd_get : entryFor table "wrapper_descriptor.__get__" = some Builtin.«wrapper_descriptor.__get__» := entryFor_of_tree (by kernel_rfl)
theorem args_wd_get (a b c : Value) : argsOk "wrapper_descriptor.__get__" ⟨[a, b, c], []⟩ := by unfold argsOk; kernel_rfl
section
variable {prog : Program} {w : World} {A : Around} {E : Value → Shared → Prop} {s : Shared} {x C : Addr} {Q : Fin → Shared → Prop}
theorem pop_get (hI : Looks (model prog w) s.heap (isInstance (.ref x) (.type "list")) true)
    (h : Q (.done (.ret (.ref s.heap.objs.size))) { s with heap := s.heap.push { cls := .type "builtin_function_or_method", data := .fields #[.builtin "list.pop", .ref x] } }) :
    wpAny (model prog w) A (Builtin.«method_descriptor.__get__» ⟨[.builtin "list.pop", .ref x, .ref C], []⟩) Q E s := by
  unfold Builtin.«method_descriptor.__get__»
  refine wpAny_bind (wpAny_of_eq (a := (Value.builtin "list.pop", some (Value.ref x), some (Value.ref C))) (by kernel_rfl) ?_)
  have ht : Manifest.toldItsClass.contains "list.pop" = false := by decide +kernel
  simp only [ht, Bool.false_eq_true, if_false]
  refine wpAny_bind ?_
  refine wpAny_bind (wpAny_of_eq (a := (("pop" : Str), Value.type "list")) (by kernel_rfl) ?_)
  refine wpAny_bind (hI.here ?_)
  simp only [Bool.not_true, Bool.false_eq_true, if_false]
  refine wpAny_pure ?_
  exact wpAny_bind (wpAny_newObj_type (wpAny_pure h))

theorem wrap_get {id : String} (hid : id = "list.__len__" ∨ id = "list.__init__") (hI : Looks (model prog w) s.heap (isInstance (.ref x) (.type "list")) true)
    (h : Q (.done (.ret (.ref s.heap.objs.size))) { s with heap := s.heap.push { cls := .type "method-wrapper", data := .fields #[.builtin id, .ref x] } }) :
    wpAny (model prog w) A (Builtin.«wrapper_descriptor.__get__» ⟨[.builtin id, .ref x, .ref C], []⟩) Q E s := by
  unfold Builtin.«wrapper_descriptor.__get__»
  rcases hid with rfl | rfl
  · refine wpAny_bind (wpAny_of_eq (a := (Value.builtin "list.__len__", some (Value.ref x), some (Value.ref C))) (by kernel_rfl) ?_)
    refine wpAny_bind ?_
    refine wpAny_bind (wpAny_of_eq (a := (("__len__" : Str), Value.type "list")) (by kernel_rfl) ?_)
    refine wpAny_bind (hI.here ?_)
    simp only [Bool.not_true, Bool.false_eq_true, if_false]
    refine wpAny_pure ?_
    exact wpAny_bind (wpAny_newObj_type (wpAny_pure h))
  · refine wpAny_bind (wpAny_of_eq (a := (Value.builtin "list.__init__", some (Value.ref x), some (Value.ref C))) (by kernel_rfl) ?_)
    refine wpAny_bind ?_
    refine wpAny_bind (wpAny_of_eq (a := (("__init__" : Str), Value.type "list")) (by kernel_rfl) ?_)
    refine wpAny_bind (hI.here ?_)
    simp only [Bool.not_true, Bool.false_eq_true, if_false]
    refine wpAny_pure ?_
    exact wpAny_bind (wpAny_newObj_type (wpAny_pure h))
end

section
variable {prog : Program} {w : World} {M : Model} {A : Around} {E : Value → Shared → Prop} {h : Heap} {g : Array GenState} {d : Drawn} {t : Nat} {os : OsState}
theorem sup_ga {so D x C : Addr} {l₀ l : List Value} {K : Frag} {name : Str} {tk : Tok} {Q : Fin → Shared → Prop} {id T gid : String} {Bg : Builtin} {o : Obj}
    (hso : h.get? so = some { cls := .type "super", dict := none, data := .fields #[.ref D, .ref x, .ref C], slots := #[] }) (hno : Looks (model prog w) h (opaqueClassAbove (.ref C)) none)
    (hC : Looks (model prog w) h (mroOf (.ref C)) l₀) (hl : (l₀.dropWhile (· != .ref D)).drop 1 = l) (X : K.In h)
    (hf : alongIn K name l = some (some (.builtin id))) (hTf : ∀ s : Shared, s.TypeIs (.builtin id) T) (S : Slot T "__get__" gid) (hB : entryFor table gid = some Bg) (ha : ∀ a b c, argsOk gid ⟨[a, b, c], []⟩) (hxC : x ≠ C) (hn : (name == ("__class__" : Str)) = false)
    (hget : ∀ (A : Around) (E : Value → Shared → Prop) (Q : Fin → Shared → Prop), Q (.done (.ret (.ref h.objs.size))) ⟨h.push o, g, d, t, os⟩ → wpAny (model prog w) A (Bg ⟨[.builtin id, .ref x, .ref C], []⟩) Q E ⟨h, g, d, t, os⟩)
    (hq : Q (.done (.ret (.ref h.objs.size))) ⟨h.push o, g, d, t, os⟩) :
    wpAny (model prog w) A (Builtin.«super.__getattribute__» ⟨[.ref so, .str name tk], []⟩) Q E ⟨h, g, d, t, os⟩ := by
  have hlk := S.lookup
  have hne : (Value.ref x == Value.ref C) = false := by simp [hxC]
  have hTf' := hTf ⟨h, g, d, t, os⟩
  have hdt : ({ cls := .type "super", dict := none, data := .fields #[.ref D, .ref x, .ref C], slots := #[] } : Obj).data = .fields #[.ref D, .ref x, .ref C] := rfl
  have f0 : (#[.ref D, .ref x, .ref C] : Array Value)[0]? = some (.ref D) := rfl
  have f1 : (#[.ref D, .ref x, .ref C] : Array Value)[1]? = some (.ref x) := rfl
  have f2 : (#[.ref D, .ref x, .ref C] : Array Value)[2]? = some (.ref C) := rfl
  unfold Builtin.«super.__getattribute__»
  repeat (first
    | (with_reducible refine wpAny_field hso hdt f0 ?_) | (with_reducible refine wpAny_field hso hdt f1 ?_) | (with_reducible refine wpAny_field hso hdt f2 ?_)
    | (with_reducible refine ks_wpAny_notOpaque hno ?_)
    | (with_reducible refine Looks.at hC ?_; rw [hl])
    | (refine ks_forIn_along X (fun _ _ => rfl) rfl ?_ hf)
    | (with_reducible refine wpAny_typeOf hTf' ?_)
    | (with_reducible refine wpAny_call_entry S hTf' hB ?_ (ha _ _ _))
    | (with_reducible refine hget _ _ _ ?_)
    | (with_reducible refine ⟨_, rfl, ?_⟩)
    | (simp only [hn, hne, Bool.or_false, Bool.false_eq_true, if_false])
    | wp_step
    | dsimp only)
  all_goals exact hq

theorem sup_getMethod {so D x C : Addr} {l₀ l : List Value} {K : Frag} {name : Str} {pl : Sem Bool} {Q : Value × List Value → Shared → Prop} {id T gid : String} {Bg : Builtin} {o : Obj}
    (hso : h.get? so = some { cls := .type "super", dict := none, data := .fields #[.ref D, .ref x, .ref C], slots := #[] }) (hno : Looks (model prog w) h (opaqueClassAbove (.ref C)) none)
    (hC : Looks (model prog w) h (mroOf (.ref C)) l₀) (hl : (l₀.dropWhile (· != .ref D)).drop 1 = l) (X : K.In h)
    (hf : alongIn K name l = some (some (.builtin id))) (hTf : ∀ s : Shared, s.TypeIs (.builtin id) T) (S : Slot T "__get__" gid) (hB : entryFor table gid = some Bg) (ha : ∀ a b c, argsOk gid ⟨[a, b, c], []⟩) (hxC : x ≠ C) (hn : (name == ("__class__" : Str)) = false)
    (hget : ∀ (A : Around) (E : Value → Shared → Prop) (Q : Fin → Shared → Prop), Q (.done (.ret (.ref h.objs.size))) ⟨h.push o, g, d, t + 1, os⟩ → wpAny (model prog w) A (Bg ⟨[.builtin id, .ref x, .ref C], []⟩) Q E ⟨h, g, d, t + 1, os⟩)
    (hq : Q (.ref h.objs.size, []) ⟨h.push o, g, d, t + 1, os⟩) :
    wpAny (model prog w) A (getMethod (.ref so) name pl) Q E ⟨h, g, d, t, os⟩ := by
  have hlk := F.ks_slot_super_ga.lookup
  have hcan := F.ks_canon_super_ga
  have hT : ∀ t', (⟨h, g, d, t', os⟩ : Shared).TypeIs (.ref so) "super" := fun _ => ⟨_, hso, rfl⟩
  unfold getMethod
  refine wpAny_bind (wpAny_specialOf (hT _) hlk ?_)
  show wpAny _ _ (if (Manifest.canonical "super.__getattribute__" != "object.__getattribute__") = true then _ else _) _ _ _
  rw [if_pos hcan]
  unfold getAttr getAttrBy
  refine wpAny_bind (wpAny_bind (wpAny_mkText (wpAny_holding (wpAny_bind (wpAny_typeOf (hT _) (wpAny_bind (wpAny_of_eq hlk ?_)))))))
  show wpAny _ _ (getAttrByItsOwn (.ref so) (.str name t) (.type "super") (.builtin "super.__getattribute__") true false) _ _ _
  unfold getAttrByItsOwn hookBefore callGetattribute boundAndCalled
  refine wpAny_bind (wpAny_of_eq (show (if onTheHeap (.type "super") then typeLookup (.type "super") "__getattr__" else pure none) = pure none from rfl) ?_)
  refine wpAny_bind (wpAny_attempt (wpAny_holding ?_))
  show wpAny _ _ (bindSpecial (.builtin "super.__getattribute__") (.ref so) >>= _) _ _ _
  refine wpAny_bind (wpAny_of_eq (F.ks_slot_super_ga.bind _) ?_)
  refine wpAny_mono (Q := fun v s' => v = .ref h.objs.size ∧ s' = ⟨h.push o, g, d, t + 1, os⟩) (E := fun _ _ => False)
    (wpAny_call_entry F.ks_slot_super_ga (hT _) F.ks_entry_super_ga (sup_ga hso hno hC hl X hf hTf S hB ha hxC hn hget ⟨_, rfl, rfl, rfl⟩) (F.ks_gaArgs_super _ _)) (fun v s' hv => ?_) fun _ _ z => z.elim
  obtain ⟨rfl, rfl⟩ := hv
  exact wpAny_pure (wpAny_pure hq)
end
end Mine
end

section
open PySem PySem.W PyProof.Rows PySem.Calls PySem.Spec
open PySem.Builtin PySem.Builtin.ObjectAttr
open Sem (wp)
open MeetsSeq
set_option Elab.async false
set_option maxRecDepth 100000
namespace Mine
section
variable {prog : Program} {w : World} {A : Around} {E : Value → Shared → Prop} {s : Shared} {K : Frag} {x C D L dx so q : Addr} {h₀ : Heap} {m : Str → Option Value} {ox : Obj} {od : Option Obj} {name : Str} {news news' : List (Addr × Obj)}
variable {n : Nat} {its : Array Value} {v : Value}

theorem popBody {Q : Value → Shared → Prop} {o : Obj} {y : Value} (hl : s.heap.get? x = some o) (hd : o.data = .seq its n) (hy : its[its.size - 1]? = some y) (hs1 : its.size ≤ sizeLine)
    (h : Q y { s with heap := s.heap.update x (Obj.mapSeq fun xs => xs.eraseIdxIfInBounds (its.size - 1)) }) :
    wpAny (model prog w) A (Builtin.«list.pop» ⟨[.ref x], []⟩) (fun fin s' => ∃ v, fin = .done (.ret v) ∧ Q v s') E s := by
  obtain ⟨oc, odd, oda, osl⟩ := o
  dsimp only at hd
  subst hd
  obtain ⟨hp, g, d, tk, os⟩ := s
  have hpos : 0 < its.size := by
    rcases Nat.eq_zero_or_pos its.size with h0 | h0
    · simp [h0] at hy
    · exact h0
  have hne : ¬ its.isEmpty = true := by
    intro he; have : its.size = 0 := by simpa using he
    omega
  have hk : seqIndex? (-1) its.size = some (its.size - 1) := by
    rw [PySem.seqIndex_neg (by omega) (by omega)]; congr 1; omega
  wp_walk using wpAny_loadPart' hl
  simp only [hk, hy, Option.bind_some, Option.map_some]
  have hz' : (its.eraseIdxIfInBounds (its.size - 1)).size ≤ sizeLine + 1 := Nat.le_trans (size_erased its _) (Nat.le_succ_of_le hs1)
  wp_walk using (wpAny_updateSeq hl rfl (hz := hs1) (_hz' := hz')), wpAny_loadPart' hl
  exact ⟨_, rfl, h⟩

theorem bound_call {id T : String} {B : Builtin} {args : List Value} {Q : Value → Shared → Prop} (hq : s.heap.get? q = some ⟨.type T, none, .fields #[.builtin id, .ref x], #[]⟩) (hT : T = "builtin_function_or_method" ∨ T = "method-wrapper")
    (hc : ∀ (A : Around) (E : Value → Shared → Prop) (Q : Unit → Shared → Prop), Q () s → wpAny (model prog w) A (checkBoundCall id ⟨.ref x :: args, []⟩) Q E s) (hp : plainId id = true) (hb : entryFor table id = some B)
    (h : wpAny (model prog w) A.in1 (B ⟨.ref x :: args, []⟩) (fun fin s' => ∃ v, fin = .done (.ret v) ∧ Q v s') E s) :
    wpAny (model prog w) A (call (.ref q) args) Q E s := by
  refine wpAny_call (codeAny_of_tree ?_)
  show wpAny _ A.in1 (callAny (.ref q) ⟨args, []⟩) _ _ s
  unfold callAny
  refine wpAny_bind (wpAny_load hq ?_)
  have key : wpAny (model prog w) A.in1 (do checkBoundCall id ⟨.ref x :: args, []⟩; again (.builtin id ⟨.ref x :: args, []⟩)) (fun fin s' => match fin with
      | .done f => wants Q E (.ok f) s'
      | .again c' => c'.quiet = true ∧ codeAny (model prog w) A c' (wants Q E) s') (fun e s' => wants Q E (.error e) s') s := by
    refine wpAny_bind (hc _ _ _ (wpAny_pure ⟨plainId_quiet hp _, codeAny_builtin hb ?_⟩))
    rw [Around.under_plainId hp _]
    exact wpAny_mono h (fun fin s' h' => by obtain ⟨v, rfl, hv⟩ := h'; exact hv) fun _ _ h' => h'
  rcases hT with rfl | rfl <;> exact key

theorem check_bound_slot {id : String} {args : List Value} (hk : builtinKind id = some .slot) (ha : argsOk id ⟨.ref x :: args, []⟩) {Q : Unit → Shared → Prop} (h : Q () s) : wpAny (model prog w) A (checkBoundCall id ⟨.ref x :: args, []⟩) Q E s := by
  unfold checkBoundCall
  cases hsig : Manifest.signature? id with
  | none => exact wpAny_pure h
  | some sig =>
    simp only [hk]
    have h2 : Bind.checkArgs id sig ⟨.ref x :: args, []⟩ = pure () := by simpa only [argsOk, hsig] using ha
    show wpAny _ A (Bind.checkArgs id sig ⟨.ref x :: args, []⟩) Q E s
    rw [h2]; exact wpAny_pure h

theorem check_bound_pop (X : K.In s.heap) (I : InstAt s.heap x ox C od) (hm : mroIn K C (.type "module") = some false) (ht : typeIn K (.ref C) = some (.type "type")) (hc : (clsIn K C).map (·.qualname.toString) = some "_Accumulator") {Q : Unit → Shared → Prop} (h : Q () s) :
    wpAny (model prog w) A (checkBoundCall "list.pop" ⟨[.ref x], []⟩) Q E s := by
  obtain ⟨cd, hcd, hqn⟩ := Option.map_eq_some_iff.mp hc
  obtain ⟨hh, g, d, t, os⟩ := s
  have hI : Looks (model prog w) hh (isInstance (.ref x) (.type "module")) false := I.type.andThen (looks_mroIn X hm)
  have hT : Looks (model prog w) hh (typeOf (.ref C)) (.type "type") := looks_typeIn X ht
  have hC : Looks (model prog w) hh (classData C) cd := looks_clsIn X hcd
  have hchk : (match Manifest.signature? "list.pop" with | some sig => Bind.checkArgs "list.pop" { sig with full := toString "_Accumulator" ++ toString "." ++ toString (Bind.lastOf "list.pop") } ⟨[.ref x], []⟩ | none => pure ()) = pure () := by kernel_rfl
  have hva : Manifest.varargsMethods.contains "list.pop" = false := by decide +kernel
  have hnc : ∀ c, ox.data ≠ .cls c := fun c e => by
    have := I.no
    unfold notCls at this
    rw [e] at this
    exact Bool.noConfusion this
  unfold checkBoundCall
  cases hsig : Manifest.signature? "list.pop" with
  | none => exact wpAny_pure h
  | some sig =>
    rw [hsig] at hchk
    simp only [kind_pop]
    refine wpAny_bind (hI.at ?_)
    simp only [hva, Bool.or_self, Bool.false_eq_true, if_false]
    refine wpAny_bind (ks_wpAny_isType_inst I.at_ hnc ?_)
    simp only [Bool.false_eq_true, if_false]
    refine wpAny_bind (I.type.at ?_)
    refine wpAny_bind (hC.at (wpAny_bind (hT.at ?_)))
    rw [hqn]
    exact wpAny_of_eq hchk h

theorem sup_K {id T gid : String} {Bg : Builtin} {o : Obj} {pl : Sem Bool} {Q : Value × List Value → Shared → Prop} (F : Fr h₀ L s.heap m) (X₀ : K.In h₀) (N : News h₀ L s.heap news) (hso : (so, ks_superObj D x C) ∈ news) (I : InstAt s.heap x ox C od) (ho : nsIn K cStatics "thirdparty.any" = some none)
    (hm : ks_superIn K C D name = some (some (.builtin id))) (hn : (name == ("__class__" : Str)) = false) (hlm : mroIn K C (.type "list") = some true) (hTf : ∀ s : Shared, s.TypeIs (.builtin id) T) (S : Slot T "__get__" gid) (hB : entryFor table gid = some Bg) (ha : ∀ a b c, argsOk gid ⟨[a, b, c], []⟩)
    (hof : o.isFreed = false)
    (hget : ∀ (s : Shared) (A : Around) (E : Value → Shared → Prop) (Q : Fin → Shared → Prop), Looks (model prog w) s.heap (isInstance (.ref x) (.type "list")) true → Q (.done (.ret (.ref s.heap.objs.size))) { s with heap := s.heap.push o } → wpAny (model prog w) A (Bg ⟨[.builtin id, .ref x, .ref C], []⟩) Q E s)
    (h : ∀ q h', Fr h₀ L h' m → News h₀ L h' ((q, o) :: news) → (∀ p ∈ news, p.1 < q) → Q (.ref q, []) { s with heap := h', toks := s.toks + 1 }) : wpAny (model prog w) A (getMethod (.ref so) name pl) Q E s := by
  have X : K.In s.heap := X₀.keeps F.keep
  have hI := sub_isinst (M := model prog w) X I hlm
  obtain ⟨hh, g, d, t, os⟩ := s
  cases hc : clsIn K C with
  | none => unfold ks_superIn at hm; rw [hc] at hm; cases hm
  | some cd =>
    unfold ks_superIn at hm
    rw [hc] at hm
    refine sup_getMethod (N _ hso).1 (looks_opaque X ho) (l₀ := cd.mro) ?_ rfl X hm hTf S hB ha (ks_ne X I hc) hn (fun A E Q hq => hget ⟨hh, g, d, t + 1, os⟩ A E Q hI hq) ?_
    · exact fun A Q E s k q => wpAny_bind ((looks_clsIn X hc) A _ E s k (wpAny_pure q))
    · obtain ⟨F', N', l'⟩ := ks_newsPush (s := ⟨hh, g, d, t, os⟩) (o := o) F N rfl (Heap.get?_push_at rfl hof) (fun b o e => Heap.get?_push_of_some _ e)
      exact h _ _ F' N' l'
end
end Mine
end

section
open PySem PySem.W PyProof.Rows PySem.Calls PySem.Spec
open PySem.Builtin PySem.Builtin.ObjectAttr
open Sem (wp)
open MeetsSeq
set_option Elab.async false
set_option maxRecDepth 100000
namespace Mine
theorem entry_list_init : entryFor table "list.__init__" = some Builtin.«list.__init__» := entryFor_of_tree (by kernel_rfl)
theorem args_list_init1 (a : Value) : argsOk "list.__init__" ⟨[a], []⟩ := by unfold argsOk; kernel_rfl
section
variable {prog : Program} {w : World} {A : Around} {E : Value → Shared → Prop} {s : Shared} {x : Addr} {n : Nat} {its : Array Value} {o : Obj} {Q : Value → Shared → Prop}
theorem lenBody (hl : s.heap.get? x = some o) (hd : o.data = .seq its n) (h : Q (.int its.size s.toks) { s with toks := s.toks + 1 }) :
    wpAny (model prog w) A (Builtin.«list.__len__» ⟨[.ref x], []⟩) (fun fin s' => ∃ v, fin = .done (.ret v) ∧ Q v s') E s := by
  obtain ⟨oc, odd, oda, osl⟩ := o
  dsimp only at hd
  subst hd
  obtain ⟨hp, g, d, tk, os⟩ := s
  wp_walk using wpAny_loadPart' hl
  exact ⟨_, rfl, h⟩
theorem initBody (hl : s.heap.get? x = some o) (hd : o.data = .seq its n) (hs1 : its.size ≤ sizeLine) (h : Q .none { s with heap := s.heap.update x (Obj.mapSeq fun _ => #[]) }) :
    wpAny (model prog w) A (Builtin.«list.__init__» ⟨[.ref x], []⟩) (fun fin s' => ∃ v, fin = .done (.ret v) ∧ Q v s') E s := by
  obtain ⟨oc, odd, oda, osl⟩ := o
  dsimp only at hd
  subst hd
  obtain ⟨hp, g, d, tk, os⟩ := s
  wp_walk using wpAny_loadPart' hl
  all_goals exact ⟨_, rfl, h⟩

noncomputable def setSlice (xs new : Array Value) (lo hi : Option Int) : Array Value :=
  xs.extract 0 (sliceBounds lo hi none xs.size).1.toNat ++ new ++ xs.extract (max (sliceBounds lo hi none xs.size).1 (sliceBounds lo hi none xs.size).2.1).toNat xs.size

theorem setBody {sl l : Addr} {vl vu : Value} {lo hi : Option Int} {new : Array Value} (hl : s.heap.get? x = some o) (hd : o.data = .seq its n) (hs1 : its.size ≤ sizeLine)
    (hsl : s.heap.IsSliceOf sl vl vu .none) (pl : IsPart vl lo) (pu : IsPart vu hi) (hn : s.heap.IsList l new) (hne : x ≠ l) (hz : its.size + new.size ≤ sizeLine) (hz' : (setSlice its new lo hi).size ≤ sizeLine + 1)
    (hb : (sliceBounds lo hi none its.size).2.2 = 1)
    (h : Q .none { s with heap := s.heap.update x (Obj.mapSeq fun xs => xs.extract 0 (sliceBounds lo hi none its.size).1.toNat ++ new ++ xs.extract (max (sliceBounds lo hi none its.size).1 (sliceBounds lo hi none its.size).2.1).toNat xs.size) }) :
    wpAny (model prog w) A (Builtin.«list.__setitem__» ⟨[.ref x, .ref sl, .ref l], []⟩) (fun fin s' => ∃ v, fin = .done (.ret v) ∧ Q v s') E s := by
  obtain ⟨os, hos, hcs, hds⟩ := id hsl
  obtain ⟨ol, hol, hcl, nl, hdl⟩ := id hn
  have hTs : s.TypeIs (.ref sl) "slice" := ⟨os, hos, hcs⟩
  have hTl : s.TypeIs (.ref l) "list" := ⟨ol, hol, hcl⟩
  unfold Builtin.«list.__setitem__»
  refine wpAny_bind (wpAny_pure ?_)
  refine wpAny_bind ?_
  unfold Builtin.List.listSubscript?
  refine wpAny_bind (wpAny_specialOf hTs slice_no_index ?_)
  simp only [Option.isNone_none, if_true]
  refine wpAny_pure ?_
  show wpAny _ _ (typeOf (.ref sl) >>= _) _ _ s
  refine wpAny_bind (wpAny_typeOf hTs ?_)
  rw [if_neg (by decide)]
  rw [listSliceParts_eq]
  have hstep : ¬ ((rawPart none == rawInt 0) = true) := Bool.false_ne_true
  refine wpAny_bind (wpAny_bind (wpAny_field hos hds (x := Value.none) rfl (wpAny_bind (wpAny_listPart IsPart.none ?_))))
  rw [if_neg hstep]
  refine wpAny_bind (wpAny_field hos hds (x := vl) rfl (wpAny_bind (wpAny_listPart pl ?_)))
  refine wpAny_bind (wpAny_field hos hds (x := vu) rfl (wpAny_bind (wpAny_listPart pu (wpAny_pure ?_))))
  have hsame : Builtin.List.listSameRef (.ref x) (.ref l) = false := by simp [Builtin.List.listSameRef, hne]
  rw [hsame, if_neg Bool.false_ne_true]
  refine wpAny_bind (m := Builtin.List.listAllItems _ _) ?_
  unfold Builtin.List.listAllItems
  refine wpAny_bind (wpAny_typeOf hTl ?_)
  rw [if_pos (show ((Value.type "list" == .type "list") || (Value.type "list" == .type "tuple")) = true from by decide)]
  unfold Builtin.List.listItems
  refine wpAny_bind (wpAny_seqItems hol hdl (wpAny_pure ?_))
  refine wpAny_bind (wpAny_bind (wpAny_seqItems hl hd (wpAny_pure ?_)))
  refine wpAny_bind (wpAny_of_eq (sliceIndices_raw lo hi none its.size (by simp)) ?_)
  rw [hb, if_pos (show (((1 : Int)) == 1) = true from by decide)]
  refine wpAny_bind (wpAny_rule ?_)
  have htl : Builtin.List.listTooLong (its.size + new.size) = false := by simp [Builtin.List.listTooLong]; omega
  rw [htl, if_neg Bool.false_ne_true]
  refine wpAny_bind (m := Builtin.List.listUpdate _ _) (wpAny_updateSeq hl hd ?_ hs1 hz')
  refine wpAny_bind (wpAny_letGo (wpAny_bind (wpAny_pure ?_)))
  exact wpAny_pure ⟨_, rfl, h⟩
end
end Mine
end

section
open PySem PySem.W PyProof.Rows PySem.Calls PySem.Spec
open PySem.Builtin PySem.Builtin.ObjectAttr
open Sem (wp)
open MeetsSeq
set_option Elab.async false
set_option maxRecDepth 100000
namespace Mine
section
variable {prog : Program} {w : World} {A₀ A : Around} {s : Shared} {base h₀ : Heap} {outer : List Env} {L : Addr} {m mg mb : Str → Option Value} {env : Env} {news news' : List (Addr × Obj)} {K : Frag} {p : Program} {loose : List Str}
  {R : Result → Shared → Prop} {name qual : Str} {params : Arguments} {body : List Stmt} {scope : Scope} {dV kV doc pm cdv ct oc : Value} {an od : Option Addr} {osl : Array (Option Value)} {f cc : Addr} {args : Args} {binds : List (Str × Value)}
theorem code_superR (B : Below A₀ base outer h₀) (F : Fr h₀ L s.heap m) (X₀ : K.In h₀) (N : News h₀ L s.heap news) (T : TopRead p loose mg mb h₀) (BM : BMain mg h₀) (hA : A.frames = some (env :: outer)) (hf : env.frame = some L) (hke : env.scope.kind = .function)
    (ho : K.lookup f = some ⟨oc, od, .func (ksFn name qual params body scope dV kV doc pm an cdv ct cc), osl⟩) (hcd : codeIn K cdv qual = true) (hroom : A.depth < recursionLimit)
    (hbind : BindsTo s (ksFn name qual params body scope dV kV doc pm an cdv ct cc) args binds) (hloc : ∀ y ∈ binds, scope.names.lookup y.1 = some .local)
    (h : ∀ g L' h₁, Fr h₀ L g m → Fr g L' h₁ (fun y => binds.reverse.lookup y) → News g L' h₁ news → Below A base (env :: outer) g → K.In g → TopRead p loose mg mb g → BMain mg g → (∀ p ∈ news, p.1 < L') →
      _root_.PySem.wpAt (model prog w) (A.deeper (ksEnv qual scope L' f cdv cc)) (.func body (ksEnv qual scope L' f cdv cc)) (execs body (ksEnv qual scope L' f cdv cc))
        (fun fl s' => LeaveK h₀ L m g R (match fl with | .ret v => v | _ => .none) s')
        (fun e s' => wpAny (model prog w) (A.deeper (ksEnv qual scope L' f cdv cc)) (leaving (ksEnv qual scope L' f cdv cc) e) (fun _ s'' => R (.error e) s'') (fun e' s'' => R (.error e') s'') s')
        { s with heap := h₁, toks := s.toks + binds.length })
    (hcell : ∀ x ∈ scope.names, x.2 ≠ .cell) (hco : scope.isCoroutine = false) (hgen : scope.isGenerator = false) (hk : scope.kind = .function) : codeAny (model prog w) A (.call (.ref f) args) R s := by
  obtain ⟨FG, BG, st, lv⟩ := groundX (R := R) B F N hA hf hke
  refine ks_codeAny_call_defAt (fd := ksFn name qual params body scope dV kV doc pm an cdv ct cc) (body := body) (binds := binds) hroom ((X₀.keeps F.keep) _ _ ho) rfl (T.nolimit.keeps F.keep) (codeRec_of (X₀.keeps F.keep) hcd) rfl hbind hcell hloc (fun h₁ hns hk₁ => ?_) hco hgen hk
  exact ks_wpAt_mono (h _ s.heap.objs.size h₁ FG ⟨hns, fun b o e => hk₁ b o (of_hideAll _ e), Nat.le_of_eq (hideAll_size _ _)⟩
    (fun p hp => ⟨hk₁ _ _ (N p hp).1, Nat.ne_of_lt (Heap.lt_size (N p hp).1), hideAll_none _ (List.mem_map_of_mem hp)⟩) BG (X₀.keeps st) (T.keeps st) (BM.keeps st) (fun p hp => Heap.lt_size (N p hp).1)) (fun fl s' hl => lv _ _ hl) fun _ _ y => y
end
section
variable {prog : Program} {w : World} {A : Around} {E : Value → Shared → Prop} {s : Shared} {h₀ : Heap} {L : Addr} {m mg mb : Str → Option Value} {news news' : List (Addr × Obj)} {K : Frag} {p : Program} {loose : List Str} {x C D f cc cda so dx q : Addr} {ox : Obj} {odx : Option Obj}
theorem nodeR {body : List Stmt} {q : Str} {scope : Scope} {p0 p1 : Pos} {attr : Str} {whole : Sem Value} {fd : FuncData} {ar : Arg} {vs : Array Value} {file : Str} {tf : Tok} {oc ccl cl : Value} {od cdd cld : Option Addr} {osl ccs csl : Array (Option Value)} {cdD : ClassData} {Q : Value → Shared → Prop}
    (F : Fr h₀ L s.heap m) (X₀ : K.In h₀) (N : News h₀ L s.heap news) (T : TopRead p loose mg mb h₀)
    (hf : K.lookup f = some ⟨oc, od, .func fd, osl⟩) (hp : (fd.params.posonlyargs ++ fd.params.args).head? = some ar) (hv : m ar.arg = some (.ref x)) (I : InstAt s.heap x ox C odx)
    (hcode : K.lookup cda = some ⟨ccl, cdd, .fields vs, ccs⟩) (hvs : vs[2]? = some (.str file tf)) (hfile : ((prog.main.file : Str) == file) = true)
    (hcell : K.lookup cc = some ⟨cl, cld, .cell (some (.ref D)), csl⟩) (hD : clsIn K D = some cdD) (hsub : mroIn K C (.ref D) = some true) (hsuper : nsIn K mainGlobals "super" = some none)
    (hat : (attr == ("__class__" : Str)) = false) (hks : scope.names.lookup ("super" : Str) = some .globalImplicit) (hkc : scope.names.lookup ("__class__" : Str) = some .free) (hka : scope.names.lookup ar.arg = some .local) (hk : scope.kind = .function)
    (htop : (prog.main.scope.names.lookup ("super" : Str)).isSome = false) (hboot : bootBuiltins "super" = some (.type "super"))
    (h : ∀ so h', Fr h₀ L h' m → News h₀ L h' ((so, ks_superObj D x C) :: news) → (∀ p ∈ news, p.1 < so) → Q (.ref so) { s with heap := h' }) :
    _root_.PySem.wpAt (model prog w) A (.func body (ksEnv q scope L f (.ref cda) cc)) (attributeBase (.Call (.Name "super" p0) [] [] p1) attr (ksEnv q scope L f (.ref cda) cc) whole) Q E s := by
  have X : K.In s.heap := X₀.keeps F.keep
  obtain ⟨hh, g, d, t, os⟩ := s
  obtain ⟨oD, hD1, hD2⟩ : ∃ oD, hh.get? D = some oD ∧ oD.data = .cls cdD := by
    unfold clsIn at hD
    split at hD
    · rename_i c d cd' sl ho
      cases hD
      exact ⟨_, X _ _ ho, rfl⟩
    · cases hD
  refine ks_wpAt_super_base (env := ksEnv q scope L f (.ref cda) cc) hks hkc hat rfl (X _ _ hf) rfl hp rfl (X _ _ hcode) rfl hvs hfile htop ?_
  refine ks_loadName_global hk hks (loadGlobal_builtin (env := ksEnv q scope L f (.ref cda) cc) (T.g.keeps F.keep) (mg_none_of X₀ T.g hsuper) (T.b.keeps F.keep) ((T.builtins _ (by decide +kernel)).trans hboot) ⟨rfl, ?_⟩)
  refine wpAny_loadName_free hk hkc rfl ⟨_, X _ _ hcell, rfl⟩ ?_
  refine wpAny_loadName_local hk hka F.ns hv ?_
  refine ks_wpAny_isType_cls hD1 hD2 ⟨rfl, ?_⟩
  refine ks_wpAny_call_super hD1 hD2 I.at_ I.cls (fun c e => ?_) (looks_mroIn X hsub) (fun h' e k => ?_)
  · have := I.no
    unfold notCls at this
    rw [e] at this
    exact Bool.noConfusion this
  · obtain ⟨F', N', l'⟩ := ks_newsPush (s := ⟨hh, g, d, t, os⟩) F N rfl e k
    exact h _ _ F' N' l'
theorem acc_meth {name : Str} {es : List DictEntry} {n k : Nat} {its : Array Value} {fv : Value} {t : String} {pl : Sem Bool} {Q : Value × List Value → Shared → Prop} (F : Fr h₀ L s.heap m) (X₀ : K.In h₀) (I : InstAt s.heap x (accO C dx its k) C (some (dictOf es n))) (hga : findIn K (.ref C) "__getattribute__" = some (some (.builtin "list.__getattribute__"))) (hk : findIn K (.ref C) "__getattr__" = some none)
    (hf : findIn K (.ref C) name = some (some fv)) (ht : typeIn K fv = some (.type t)) (ht2 : (t == "function" || t == "method_descriptor") = true) (hs : getL name es = some none) (h : Q (fv, [.ref x]) s) :
    wpAny (model prog w) A (getMethod (.ref x) name pl) Q E s := acc_method F X₀ I hga hk hf (by
      rw [ht]
      rcases Bool.or_eq_true_iff.mp ht2 with e | e <;> (rw [beq_iff_eq.mp e]; decide +kernel)) hs h
end
end Mine
end

section
open PySem PySem.W PyProof.Rows PySem.Calls PySem.Spec
open PySem.Builtin PySem.Builtin.ObjectAttr
open Sem (wp)
open MeetsSeq
set_option Elab.async false
set_option maxRecDepth 100000
namespace Mine
theorem type_ll : typeOf (.builtin "list.__len__") = pure (.type "wrapper_descriptor") := by show builtinType _ = _; rw [builtinType_eq_fast]; kernel_rfl
theorem type_li : typeOf (.builtin "list.__init__") = pure (.type "wrapper_descriptor") := by show builtinType _ = _; rw [builtinType_eq_fast]; kernel_rfl
noncomputable abbrev boundO (T id : String) (x : Addr) : Obj := ⟨.type T, none, .fields #[.builtin id, .ref x], #[]⟩
section
variable {prog : Program} {w : World} {A : Around} {E : Value → Shared → Prop} {s : Shared} {h₀ : Heap} {L : Addr} {m : Str → Option Value} {news news' : List (Addr × Obj)} {K : Frag} {x C D so dx q : Addr} {ox : Obj} {od : Option Obj} {n : Nat} {its : Array Value} {pl : Sem Bool}
theorem sup_len {Q : Value × List Value → Shared → Prop} (F : Fr h₀ L s.heap m) (X₀ : K.In h₀) (N : News h₀ L s.heap news) (hso : (so, ks_superObj D x C) ∈ news) (I : InstAt s.heap x ox C od) (ho : nsIn K cStatics "thirdparty.any" = some none)
    (hm : ks_superIn K C D "__len__" = some (some (.builtin "list.__len__"))) (hlm : mroIn K C (.type "list") = some true)
    (h : ∀ q h', Fr h₀ L h' m → News h₀ L h' ((q, boundO "method-wrapper" "list.__len__" x) :: news) → (∀ p ∈ news, p.1 < q) → Q (.ref q, []) { s with heap := h', toks := s.toks + 1 }) : wpAny (model prog w) A (getMethod (.ref so) "__len__" pl) Q E s :=
  sup_K (o := boundO "method-wrapper" "list.__len__" x) F X₀ N hso I ho hm (by decide) hlm (fun _ => type_ll) slot_wd_get entry_wd_get args_wd_get rfl (fun _ _ _ _ hI hq => wrap_get (.inl rfl) hI hq) h
theorem sup_init {Q : Value × List Value → Shared → Prop} (F : Fr h₀ L s.heap m) (X₀ : K.In h₀) (N : News h₀ L s.heap news) (hso : (so, ks_superObj D x C) ∈ news) (I : InstAt s.heap x ox C od) (ho : nsIn K cStatics "thirdparty.any" = some none)
    (hm : ks_superIn K C D "__init__" = some (some (.builtin "list.__init__"))) (hlm : mroIn K C (.type "list") = some true)
    (h : ∀ q h', Fr h₀ L h' m → News h₀ L h' ((q, boundO "method-wrapper" "list.__init__" x) :: news) → (∀ p ∈ news, p.1 < q) → Q (.ref q, []) { s with heap := h', toks := s.toks + 1 }) : wpAny (model prog w) A (getMethod (.ref so) "__init__" pl) Q E s :=
  sup_K (o := boundO "method-wrapper" "list.__init__" x) F X₀ N hso I ho hm (by decide) hlm (fun _ => type_li) slot_wd_get entry_wd_get args_wd_get rfl (fun _ _ _ _ hI hq => wrap_get (.inr rfl) hI hq) h
theorem sup_pop {Q : Value × List Value → Shared → Prop} (F : Fr h₀ L s.heap m) (X₀ : K.In h₀) (N : News h₀ L s.heap news) (hso : (so, ks_superObj D x C) ∈ news) (I : InstAt s.heap x ox C od) (ho : nsIn K cStatics "thirdparty.any" = some none)
    (hm : ks_superIn K C D "pop" = some (some (.builtin "list.pop"))) (hlm : mroIn K C (.type "list") = some true)
    (h : ∀ q h', Fr h₀ L h' m → News h₀ L h' ((q, boundO "builtin_function_or_method" "list.pop" x) :: news) → (∀ p ∈ news, p.1 < q) → Q (.ref q, []) { s with heap := h', toks := s.toks + 1 }) : wpAny (model prog w) A (getMethod (.ref so) "pop" pl) Q E s :=
  sup_K (o := boundO "builtin_function_or_method" "list.pop" x) F X₀ N hso I ho hm (by decide) hlm (fun _ => PySem.F.type_list_pop) slot_md_get entry_md_get args_md_get rfl (fun _ _ _ _ hI hq => pop_get hI hq) h

theorem call_blen {Q : Value → Shared → Prop} (N : News h₀ L s.heap news) (hq : (q, boundO "method-wrapper" "list.__len__" x) ∈ news) (ha : (x, accO C dx its n) ∈ news) (h : Q (.int its.size s.toks) { s with toks := s.toks + 1 }) :
    wpAny (model prog w) A (call (.ref q) []) Q E s :=
  bound_call (N _ hq).1 (.inr rfl) (fun _ _ _ h => check_bound_slot (by decide +kernel) (args_list_len _) h) (by decide +kernel) entry_list_len (lenBody (N _ ha).1 rfl h)

theorem call_binit {Q : Value → Shared → Prop} (F : Fr h₀ L s.heap m) (N : News h₀ L s.heap news) (hq : (q, boundO "method-wrapper" "list.__init__" x) ∈ news) (U : Upd x (accO C dx #[] n) (accO C dx #[] n) news news')
    (h : ∀ h', Fr h₀ L h' m → News h₀ L h' news' → Q .none { s with heap := h' }) :
    wpAny (model prog w) A (call (.ref q) []) Q E s := by
  have ha : s.heap.get? x = some (accO C dx #[] n) := by
    obtain ⟨pre, post, rfl, rfl, _, _⟩ := U.split
    exact (N _ (List.mem_append.mpr (.inr (.head _)))).1
  refine bound_call (N _ hq).1 (.inr rfl) (fun _ _ _ h => check_bound_slot (by decide +kernel) (args_list_init1 _) h) (by decide +kernel) entry_list_init (initBody ha rfl (by simp) ?_)
  have U' := upd_at (Obj.mapSeq fun _ => #[]) F N U (by simp [Obj.mapSeq]) rfl
  exact h _ U'.1 U'.2

theorem call_bpop {Q : Value → Shared → Prop} {y : Value} {its' : Array Value} (F : Fr h₀ L s.heap m) (X₀ : K.In h₀) (N : News h₀ L s.heap news) (hq : (q, boundO "builtin_function_or_method" "list.pop" x) ∈ news) (I : InstAt s.heap x (accO C dx its n) C od)
    (hm : mroIn K C (.type "module") = some false) (ht : typeIn K (.ref C) = some (.type "type")) (hc : (clsIn K C).map (·.qualname.toString) = some "_Accumulator")
    (he : its = its'.push y) (U : Upd x (accO C dx its n) (accO C dx its' (n + 1)) news news') (hs : its.size ≤ sizeLine)
    (h : ∀ h', Fr h₀ L h' m → News h₀ L h' news' → Q y { s with heap := h' }) :
    wpAny (model prog w) A (call (.ref q) []) Q E s := by
  have X := X₀.keeps F.keep
  subst he
  refine bound_call (N _ hq).1 (.inl rfl) (fun _ _ _ h => check_bound_pop X I hm ht hc h) (by decide +kernel) PySem.F.entry_list_pop (popBody (y := y) I.at_ rfl (by simp) hs ?_)
  have U' := upd_at (Obj.mapSeq fun xs => xs.eraseIdxIfInBounds ((its'.push y).size - 1)) F N U (by
    have e : (its'.push y).eraseIdxIfInBounds its'.size = its' := by
      apply Array.ext'
      have : its'.size = its'.toList.length := by simp
      simp only [Array.eraseIdxIfInBounds, Array.size_push, Nat.lt_succ_self, dif_pos, Array.toList_eraseIdx, Array.toList_push]
      rw [this, List.eraseIdx_append_of_length_le (Nat.le_refl _)]
      simp
    simp only [Obj.mapSeq, Array.size_push, Nat.add_sub_cancel, e]
    simp) rfl
  exact h _ U'.1 U'.2

theorem callWith_B0 {M : Model} {pos : Pos} {first : List Value} {env : Env} {T id : String} {Q : Value → Shared → Prop} (N : News h₀ L s.heap news) (hq : (q, boundO T id x) ∈ news) (hT : T = "builtin_function_or_method" ∨ T = "method-wrapper")
    (h : wpAny M A (call (.ref q) (first ++ [])) Q E s) : wpAny M A (callWith pos (.ref q) first (backTo pos (starEach [] env)) []) Q E s := by
  have ho := (N _ hq).1
  unfold callWith
  refine wpAny_bind (wpAny_holding (evalArgs_nil3 (wpAny_bind (wpAny_standAt ?_))))
  show wpAny M A (keeperOf (.ref q) >>= _) _ _ _
  refine wpAny_bind ?_
  unfold keeperOf
  refine wpAny_bind (wpAny_load ho ?_)
  rcases hT with rfl | rfl
  · simp only [show (Value.type "builtin_function_or_method" != Value.type "method") = true by decide, show (Value.type "builtin_function_or_method" == Value.type "builtin_function_or_method" || Value.type "builtin_function_or_method" == Value.type "method-wrapper") = true by decide, if_true]
    refine wpAny_pure ?_
    exact wpAny_bind (wpAny_mono h (fun r s₂ hr => wpAny_bind (wpAny_holding (wpAny_point (wpAny_pure hr)))) fun _ _ x => x)
  · simp only [show (Value.type "method-wrapper" != Value.type "method") = true by decide, show (Value.type "method-wrapper" == Value.type "builtin_function_or_method" || Value.type "method-wrapper" == Value.type "method-wrapper") = true by decide, if_true]
    refine wpAny_pure ?_
    exact wpAny_bind (wpAny_mono h (fun r s₂ hr => wpAny_bind (wpAny_holding (wpAny_point (wpAny_pure hr)))) fun _ _ x => x)
end
end Mine
end

section
open PySem PySem.W PyProof.Rows PySem.Calls PySem.Spec
open PySem.Builtin PySem.Builtin.ObjectAttr
open Sem (wp)
open MeetsSeq
set_option Elab.async false
set_option maxRecDepth 100000
namespace Mine
theorem genn_k {M : Model} {A : Around} {E : Value → Shared → Prop} {s : Shared} {D : Addr} {mg mb : Str → Option Value} {p : Program} {loose : List Str} {Q : Value → Shared → Prop} {x : Str} {pos : Pos} {v code : Value} {scope : Scope} {cl : List (Str × Addr)} {env : Env}
    (T : TopRead p loose mg mb s.heap) (hg : env.globals = mainGlobals) (e : mg x = some v) (h : Q v s)
    (hk : scope.kind = .function) (hx : (genEnv scope cl D code builtinsNs env).kindOf x = some .globalImplicit) (hd : (x == ("__debug__" : Str)) = false) :
    wpAny M A (eval (.Name x pos) (genEnv scope cl D code builtinsNs env)) Q E s :=
  Name_function_global hk hx (loadGlobal_global (env := genEnv scope cl D code builtinsNs env) (by show s.heap.Ns env.globals mg; rw [hg]; exact T.g) e h) hd
theorem upd_mem {d : Addr} {o o' : Obj} {l l' : List (Addr × Obj)} (U : Upd d o o' l l') {q : Addr × Obj} (h : q ∈ l) (hne : q.1 ≠ d) : q ∈ l' := by
  obtain ⟨pre, post, rfl, rfl, _, _⟩ := U.split
  rcases List.mem_append.mp h with h | h
  · exact List.mem_append.mpr (.inl h)
  · rcases List.mem_cons.mp h with rfl | h
    · exact absurd rfl hne
    · exact List.mem_append.mpr (.inr (.tail _ h))
theorem upd_new {d : Addr} {o o' : Obj} {l l' : List (Addr × Obj)} (U : Upd d o o' l l') : (d, o') ∈ l' := by
  obtain ⟨pre, post, rfl, rfl, _, _⟩ := U.split
  exact List.mem_append.mpr (.inr (.head _))
theorem upd_old {d : Addr} {o o' : Obj} {l l' : List (Addr × Obj)} (U : Upd d o o' l l') : (d, o) ∈ l := by
  obtain ⟨pre, post, rfl, rfl, _, _⟩ := U.split
  exact List.mem_append.mpr (.inr (.head _))
theorem upd_uniq {d : Addr} {o o' : Obj} {l l' : List (Addr × Obj)} (U : Upd d o o' l l') {q : Addr × Obj} (h : q ∈ l) (he : q.1 = d) : q = (d, o) := by
  obtain ⟨pre, post, rfl, rfl, a, b⟩ := U.split
  rcases List.mem_append.mp h with h | h
  · exact absurd he (a q h)
  · rcases List.mem_cons.mp h with h | h
    · exact h
    · exact absurd he (b q h)
theorem TupsIn.upd {d : Addr} {o o' : Obj} {l l' : List (Addr × Obj)} (U : Upd d o o' l l') (hc : o.cls ≠ .type "tuple") {its : List Value} {qs : List (Str × Str)} (h : TupsIn l its qs) : TupsIn l' its qs := by
  induction h with
  | nil => exact .nil
  | @cons a u t q _ _ hm _ ih =>
    refine .cons (upd_mem U hm fun e => ?_) ih
    have := upd_uniq U hm e
    exact hc (by rw [← (Prod.mk.inj this).2])
section
variable {prog : Program} {w : World} {A : Around} {E : Value → Shared → Prop} {s : Shared} {h₀ : Heap} {L : Addr} {m : Str → Option Value} {news news' : List (Addr × Obj)} {K : Frag} {x C dx l : Addr} {ox : Obj} {od : Option Obj} {n : Nat} {its : Array Value}
theorem acc_tail {value slice : Expr} {i : Value} {ws : List Value} {Q : Value → Shared → Prop} (X : K.In s.heap) (I : InstAt s.heap x ox C od) (hs : findIn K (.ref C) "__getitem__" = some (some (.builtin "list.__getitem__")))
    (hsub : subscripted slice false (.ref x) i = operate ws (getItem (.ref x) i)) (h : wpAny (model prog w) A (getItem (.ref x) i) Q E s) : wpAny (model prog w) A (subscriptTail value slice (.ref x) i) Q E s := by
  unfold subscriptTail getitemInPython
  refine wpAny_bind (wpAny_bind (wpAny_bind (I.type.here ((looks_findIn X hs).here ?_))))
  dsimp only
  refine wpAny_pure ?_
  rw [hsub]
  refine wpAny_bind (wpAny_operating (wpAny_mono h (fun r s₃ h₃ => ?_) fun _ _ x => x))
  show wpAny (model prog w) A (letTemporaryGo value (.ref x) r >>= fun _ => pure r) Q E s₃
  exact wpAny_bind (wpAny_letTemporaryGo (wpAny_pure h₃))

theorem bounds_from (k n : Nat) (hk : k ≤ n) : sliceBounds (some (k : Int)) none none n = ((k : Int), (n : Int), 1) := by
  unfold sliceBounds
  have h0 : ¬ (k : Int) < 0 := by omega
  simp [h0]
  omega
theorem bounds_all (n : Nat) : sliceBounds none none none n = ((0 : Int), (n : Int), (1 : Int)) := by
  unfold sliceBounds
  simp
theorem pick_from (its : List Value) (k : Nat) (hk : k ≤ its.length) : slicePick its.toArray (some (k : Int)) none none = (its.drop k).toArray := by
  rw [kmk_pick_nat its.toArray (bounds_from k its.toArray.size (by simpa using hk))]
  congr 1
  apply List.take_of_length_le
  simp

theorem acc_from {k : Nat} {t : Tok} {value : Expr} {e : Option Expr} {p : Pos} {its : List Value} {Q : Value → Shared → Prop} (F : Fr h₀ L s.heap m) (X₀ : K.In h₀) (N : News h₀ L s.heap news) (I : InstAt s.heap x (accO C dx its.toArray n) C od) (hm : mroIn K C (.type "list") = some true) (hq : noSeq K C = true)
    (hs : findIn K (.ref C) "__getitem__" = some (some (.builtin "list.__getitem__"))) (hk : k ≤ its.length) (hsz : its.length ≤ sizeLine)
    (h : ∀ l h', Fr h₀ L h' m → News h₀ L h' ((l, listOf (its.drop k).toArray 0) :: news) → (∀ p ∈ news, p.1 < l) → Q (.ref l) { s with heap := h' }) :
    wpAny (model prog w) A (subscriptTail value (.Slice e none none p) (.ref x) (.ref s.heap.objs.size)) Q E { s with heap := s.heap.push { cls := .type "slice", data := .fields #[.int k t, .none, .none] } } := by
  have X := X₀.keeps F.keep
  have up : ∀ b o, s.heap.get? b = some o → (s.heap.push { cls := .type "slice", data := .fields #[.int k t, .none, .none] }).get? b = some o := fun b o e => Heap.get?_push_of_some _ e
  have I' : InstAt (s.heap.push { cls := .type "slice", data := .fields #[.int k t, .none, .none] }) x (accO C dx its.toArray n) C od := by
    obtain ⟨a, b, c, d⟩ := I
    refine ⟨up _ _ a, b, c, ?_⟩
    cases od with
    | none => exact d
    | some od => exact up _ _ d
  refine acc_tail (ws := [.ref s.heap.objs.size, .ref x]) (s := { s with heap := s.heap.push _ }) (X.keeps up) I' hs (by with_unfolding_all rfl) ?_
  refine acc_slice (s := { s with heap := s.heap.push _ }) (X.keeps up) I' hm hq hs (Heap.IsSliceOf.new ..) (.int k t) .none .none (by simp) ?_ (by simpa using hsz)
  rw [pick_from its k hk]
  have F2 := F.push { cls := .type "slice", data := .fields #[.int k t, .none, .none] }
  have N2 := (N.pushKeep { cls := .type "slice", data := .fields #[.int k t, .none, .none] })
  exact h _ _ (F2.push _) (N2.push F2 (listOf (its.drop k).toArray 0)) (fun p hp => Nat.lt_of_lt_of_le (Heap.lt_size (N p hp).1) (by show s.heap.objs.size ≤ (s.heap.push _).objs.size; rw [Heap.size_push]; exact Nat.le_succ _))

theorem acc_setitem {sl l : Addr} {vl vu : Value} {lo hi : Option Int} {new r its : List Value} {c n' : Nat} {Q : Unit → Shared → Prop} (F : Fr h₀ L s.heap m) (X : K.In s.heap) (N : News h₀ L s.heap news) (I : InstAt s.heap x (accO C dx its.toArray n) C od) (hm : mroIn K C (.type "list") = some true) (hq : noSeq K C = true)
    (hs : findIn K (.ref C) "__setitem__" = some (some (.builtin "list.__setitem__"))) (hsl : s.heap.IsSliceOf sl vl vu .none) (pl : IsPart vl lo) (pu : IsPart vu hi) (hl : (l, listOf new.toArray c) ∈ news) (hne : x ≠ l) (hz : its.length + new.length ≤ sizeLine)
    (hb : (sliceBounds lo hi none its.length).2.2 = 1) (hr : setSlice its.toArray new.toArray lo hi = r.toArray) (hn : n' = if r.length = its.length then n else n + 1)
    (U : Upd x (accO C dx its.toArray n) (accO C dx r.toArray n') news news')
    (h : ∀ h', Fr h₀ L h' m → News h₀ L h' news' → Q () { s with heap := h' }) :
    wpAny (model prog w) A (setItem (.ref x) (.ref sl) (.ref l)) Q E s := by
  have hrl : r.length ≤ sizeLine + 1 := by
    have := congrArg Array.size hr
    simp only [setSlice, Array.size_append, Array.size_extract, List.size_toArray] at this
    have hpq : (sliceBounds lo hi none its.length).1.toNat ≤ (max (sliceBounds lo hi none its.length).1 (sliceBounds lo hi none its.length).2.1).toNat := Int.toNat_le_toNat (Int.le_max_left _ _)
    rw [Nat.min_self] at this
    generalize (max (sliceBounds lo hi none its.length).1 (sliceBounds lo hi none its.length).2.1).toNat = q at this hpq
    generalize (sliceBounds lo hi none its.length).1.toNat = p at this hpq
    have h1 := Nat.min_le_left p its.length
    have h2 := Nat.min_le_right p its.length
    generalize min p its.length = k at this h1 h2
    clear hb hr hn U h hl hne
    omega
  unfold setItem
  try with_reducible refine wpAny_holding ?_
  refine wpAny_bind (sub_key X I hq ?_)
  refine wpAny_bind (sub_special X I hs PySem.F.slot_list_setitem (sub_call X I hm kind_lsi split_lsi (by decide +kernel) PySem.F.entry_list_setitem (PySem.F.args_list_setitem_3 _ _ _) (setBody (n := n) (its := its.toArray) I.at_ rfl (by rw [List.size_toArray]; omega) hsl pl pu ⟨_, (N _ hl).1, rfl, _, rfl⟩ hne (by simpa using hz) (by rw [hr]; simpa using hrl) (by simpa using hb) ?_)))
  have U' := upd_at (Obj.mapSeq fun xs => xs.extract 0 (sliceBounds lo hi none its.toArray.size).1.toNat ++ new.toArray ++ xs.extract (max (sliceBounds lo hi none its.toArray.size).1 (sliceBounds lo hi none its.toArray.size).2.1).toNat xs.size) F N U (by
    have hr' := hr
    unfold setSlice at hr'
    unfold Obj.mapSeq
    dsimp only
    rw [hr', hn]
    simp only [List.size_toArray]
    simp only [beq_iff_eq]) rfl
  exact wpAny_pure (h _ U'.1 U'.2)

theorem set_from (its new : List Value) (k : Nat) (hk : k ≤ its.length) : setSlice its.toArray new.toArray (some (k : Int)) none = (its.take k ++ new).toArray := by
  unfold setSlice
  rw [List.size_toArray, bounds_from k its.length hk]
  simp
  omega
theorem set_all (its new : List Value) : setSlice its.toArray new.toArray none none = new.toArray := by
  unfold setSlice
  rw [List.size_toArray, bounds_all]
  simp

theorem acc_setS {l : Addr} {vl vu : Value} {lo hi : Option Int} {new r its : List Value} {c n' : Nat} {odx : Obj} {Q : Unit → Shared → Prop} (F : Fr h₀ L s.heap m) (X₀ : K.In h₀) (N : News h₀ L s.heap news) (hac : (x, accO C dx its.toArray n) ∈ news) (had : (dx, odx) ∈ news) (hm : mroIn K C (.type "list") = some true) (hq : noSeq K C = true)
    (hs : findIn K (.ref C) "__setitem__" = some (some (.builtin "list.__setitem__"))) (pl : IsPart vl lo) (pu : IsPart vu hi) (hl : (l, listOf new.toArray c) ∈ news) (hne : x ≠ l) (hz : its.length + new.length ≤ sizeLine)
    (hb : (sliceBounds lo hi none its.length).2.2 = 1) (hr : setSlice its.toArray new.toArray lo hi = r.toArray) (hn : n' = if r.length = its.length then n else n + 1)
    (U : Upd x (accO C dx its.toArray n) (accO C dx r.toArray n') news news')
    (h : ∀ h', Fr h₀ L h' m → News h₀ L h' news' → Q () { s with heap := h' }) :
    wpAny (model prog w) A (setItem (.ref x) (.ref s.heap.objs.size) (.ref l)) Q E { s with heap := s.heap.push { cls := .type "slice", data := .fields #[vl, vu, .none] } } := by
  have X := X₀.keeps F.keep
  have up : ∀ b o, s.heap.get? b = some o → (s.heap.push { cls := .type "slice", data := .fields #[vl, vu, .none] }).get? b = some o := fun b o e => Heap.get?_push_of_some _ e
  have N2 := N.pushKeep { cls := .type "slice", data := .fields #[vl, vu, .none] }
  exact acc_setitem (s := { s with heap := s.heap.push _ }) (F.push _) (X.keeps up) N2 (InstAt_acc N2 hac had) hm hq hs (Heap.IsSliceOf.new ..) pl pu hl hne hz hb hr hn U h
end
end Mine
end

section
open PySem PySem.W PyProof.Rows PySem.Calls PySem.Spec
open PySem.Builtin PySem.Builtin.ObjectAttr
open Sem (wp)
open MeetsSeq
set_option Elab.async false
set_option maxRecDepth 100000
namespace Mine
section
variable {prog : Program} {w : World} {A : Around} {E : Value → Shared → Prop} {s : Shared} {h₀ : Heap} {L : Addr} {m : Str → Option Value} {news news' : List (Addr × Obj)} {K : Frag} {x C dx l f : Addr} {ox : Obj} {od : Option Obj}
theorem truthy_len {Q : Bool → Shared → Prop} (F : Fr h₀ L s.heap m) (X₀ : K.In h₀) (I : InstAt s.heap x ox C od) (hb : findIn K (.ref C) "__bool__" = some none) (hs : findIn K (.ref C) "__len__" = some (some (.ref f))) (hf : isFn K (.ref f) = true)
    (h : wpAny (model prog w) A.in1 (call (.ref f) [.ref x]) (fun v s' => match v with | .int n _ => (0 ≤ n ∧ n < 2 ^ 63) ∧ Q (n != 0) { s' with toks := s'.toks + 1 } | _ => False) E s) : wpAny (model prog w) A (truthy (.ref x)) Q E s := by
  have X := X₀.keeps F.keep
  unfold truthy
  refine wpAny_bind (m := callSpecial? (.ref x) (Str.ofString "__bool__")) (wpAny_bind (wpAny_bind (I.type.here ((looks_findIn X hb).here (wpAny_pure ?_)))))
  refine wpAny_bind (wpAny_bind (I.type.here ((looks_findIn X hs).here ?_)))
  show wpAny _ _ (runValue (.builtin "len" ⟨[.ref x], []⟩) >>= _) _ _ _
  refine wpAny_bind (wpAny_runValue (codeAny_builtin entry_len ?_))
  rw [Around.under_plainId plain_len _]
  unfold Builtin.«len»
  refine wpAny_bind (m := oneArg "len" _) (wpAny_pure ?_)
  refine wpAny_bind (m := callSpecial? (.ref x) (Str.ofString "__len__")) (special_fn X I hs (beq_iff_eq.mp hf) (wpAny_mono h (fun r s' hr => ?_) fun _ _ y => y))
  cases r <;> first | exact hr.elim | skip
  rename_i n u
  obtain ⟨⟨h0, h1⟩, hq⟩ := hr
  refine wpAny_bind (wpAny_holding (wpAny_pure ?_))
  refine wpAny_bind (wpAny_letGo ?_)
  show wpAny _ _ (if n < 0 then _ else _) _ _ _
  rw [if_neg (by omega)]
  show wpAny _ _ (if n ≥ 2 ^ 63 then _ else _) _ _ _
  rw [if_neg (by omega)]
  exact wpAny_bind (wpAny_mkInt (wpAny_pure (wpAny_pure hq)))

theorem tup_ne {a b : Addr} {x y x' y' : Str} {u v u' v' : Tok} {Q : Value → Shared → Prop} (N : News h₀ L s.heap news) (ha : (a, tupO (.str x u) (.str y v)) ∈ news) (hb : (b, tupO (.str x' u') (.str y' v')) ∈ news) (hu : A.units + 64 < cLine) (hx : PyData.strOk x = true ∧ PyData.strOk y = true) (hx' : PyData.strOk x' = true ∧ PyData.strOk y' = true)
    (hne : ¬ (x = x' ∧ y = y')) (h : Q (.bool true) s) : wpAny (model prog w) A (compareOp .NotEq (.ref a) (.ref b)) Q E s := by
  have ra : Reads s.heap (.ref a) (.tuple [.str x, .str y]) [] := .tuple (N _ ha).1 rfl rfl (.cons (.str x u) (.cons (.str y v) .nil))
  have rb : Reads s.heap (.ref b) (.tuple [.str x', .str y']) [] := .tuple (N _ hb).1 rfl rfl (.cons (.str x' u') (.cons (.str y' v') .nil))
  refine ne_dataH ra rb (by simp [SeqAt.shaped, PyData.canLay0, PyData.canLayAll0, PyData.depth, PyData.depthAll, hx.1, hx.2]) (by simp [SeqAt.shaped, PyData.canLay0, PyData.canLayAll0, PyData.depth, PyData.depthAll, hx'.1, hx'.2]) hu ?_
  have e : PyData.eqv (.tuple [.str x, .str y]) (.tuple [.str x', .str y']) = false := by
    rw [Bool.eq_false_iff]
    intro q
    simp only [PyData.eqv, PyData.eqvAll, Bool.and_true, Bool.and_eq_true, beq_iff_eq] at q
    exact hne q
  rw [e]
  exact h
end
end Mine
end

section
open PySem PySem.W PyProof.Rows PySem.Calls PySem.Spec
open PySem.Builtin PySem.Builtin.ObjectAttr
open Sem (wp)
open MeetsSeq
set_option Elab.async false
set_option maxRecDepth 100000
namespace Mine
section
variable {prog : Program} {w : World} {A : Around} {E : Value → Shared → Prop} {s : Shared} {h₀ : Heap} {L : Addr} {m : Str → Option Value} {news news' : List (Addr × Obj)} {K : Frag} {x C dx l f : Addr} {ox : Obj} {od : Option Obj} {name : Str} {es : List DictEntry} {n : Nat} {expr : Bool}
theorem acc_bound {Q : Value → Shared → Prop} (F : Fr h₀ L s.heap m) (X₀ : K.In h₀) (N : News h₀ L s.heap news) (I : InstAt s.heap x ox C (some (dictOf es n))) (hm : mroIn K C (.type "list") = some true) (hga : findIn K (.ref C) "__getattribute__" = some (some (.builtin "list.__getattribute__"))) (hk : findIn K (.ref C) "__getattr__" = some none)
    (hh : hasDictIn K C = true) (ha : findIn K (.ref C) name = some (some (.ref f))) (hf : isFn K (.ref f) = true)
    (hgf : specialIn K (.ref f) "__get__" = some (some (.builtin "function.__get__"))) (ht : takesIn K (.ref f) = some false) (hc : copiedNames.contains name = false) (hl : getL name es = some none)
    (h : ∀ q h', Fr h₀ L h' m → News h₀ L h' ((q, methodObj (.ref f) (.ref x)) :: news) → (∀ p ∈ news, p.1 < q) → Q (.ref q) { s with heap := h', toks := s.toks + 1 }) : wpAny (model prog w) A (getAttr (.ref x) name expr) Q E s := by
  have X := X₀.keeps F.keep
  have hfo := findObj_fn (od := dictOf es n) hh ha hgf ht hc (by show lookIn name (dictOf es n) = _; rw [lookIn_dict, hl])
  have L3 := looks_find (M := model prog w) X I hfo
  have L0 := I.type (M := model prog w)
  have L1 := looks_findIn (M := model prog w) X hga
  have L2 := looks_findIn (M := model prog w) X hk
  have hb := PySem.F.slot_list_getattribute.bind (.ref x)
  have fin := h s.heap.objs.size _ (F.push _) (N.push F (methodObj (.ref f) (.ref x))) fun p hp => Heap.lt_size (N p hp).1
  obtain ⟨hh', g, d, t, os⟩ := s
  unfold getAttr getAttrBy
  refine wpAny_bind (wpAny_mkText (wpAny_holding (wpAny_bind (L0.at (wpAny_bind (L1.at ?_))))))
  show wpAny _ _ (getAttrByItsOwn _ _ _ _ _ _) _ _ _
  unfold getAttrByItsOwn
  refine wpAny_bind (m := hookBefore (.ref C)) (L2.at ?_)
  refine wpAny_bind (wpAny_attempt (wpAny_holding ?_))
  unfold callGetattribute
  rw [show (expr && onTheHeap (Value.builtin "list.__getattribute__")) = false from by simp [onTheHeap]]
  simp only [Bool.false_eq_true, if_false]
  unfold boundAndCalled
  rw [hb]
  refine wpAny_bind (wpAny_pure ?_)
  refine sub_call (s := { heap := hh', gens := g, drawn := d, toks := t + 1, os := os }) X I hm kind_lga split_lga (by decide +kernel) PySem.F.entry_list_ga (PySem.F.args_list_getattribute_2 _ _) ?_
  unfold Builtin.«object.__getattribute__»
  refine wpAny_bind (wpAny_pure (wpAny_bind (wpAny_pure (wpAny_bind (L0.at (wpAny_bind (L3.at ?_)))))))
  show wpAny _ _ (holding [.ref f] (call (.builtin "function.__get__") [.ref f, .ref x, .ref C]) >>= ret) _ _ _
  refine wpAny_bind (wpAny_holding (wpAny_call (fn_get (s := { heap := hh', gens := g, drawn := d, toks := t + 1, os := os }) X (beq_iff_eq.mp hf) ?_)))
  refine wpAny_pure ⟨_, rfl, ?_⟩
  show wpAny _ _ (handedOut (.ref _)) _ _ _
  rw [handedOut_of rfl]; exact wpAny_pure fin
end
section
variable {M : Model} {A : Around} {E : Value → Shared → Prop} {s : Shared} {env : Env}
theorem MethodStar_ {o e : Expr} {name : Str} {apos pos p : Pos} {Q : Value → Shared → Prop}
    (h : wpAny M A (eval o env) (fun ov s₁ => wpAny M A (getAttr ov name true) (fun f s₂ => wpAny M A (callWith pos f [] (backTo pos (starEach [.Starred e p] env)) []) Q E s₂) E s₁) E s)
    (he : eval (.Call (.Attribute o name apos) [.Starred e p] [] pos) env = (do
      let ov ← eval o env
      standAt apos.atName
      let (f, first) ← holding [ov] (do pure (← getAttr ov name true, []))
      callWith pos f first (backTo pos (starEach [.Starred e p] env)) []) := by rfl) :
    wpAny M A (eval (.Call (.Attribute o name apos) [.Starred e p] [] pos) env) Q E s := by
  rw [he]
  refine wpAny_bind (wpAny_mono h (fun ov s₁ h₁ => wpAny_bind (wpAny_standAt (wpAny_bind (wpAny_holding (wpAny_bind (wpAny_mono h₁ (fun fx s₂ h₂ => wpAny_pure ?_) fun _ _ x => x)))))) fun _ _ x => x)
  exact h₂
theorem callWith_MS {K : Frag} {h₀ : Heap} {L q g : Addr} {news : List (Addr × Obj)} {self : Value} {first : List Value} {e : Expr} {p pos : Pos} {Q : Value → Shared → Prop} (_X : K.In h₀) (_N : News h₀ L s.heap news) (_q : (q, methodObj (.ref g) self) ∈ news) (hf : fnIn K g = true)
    (h : wpAny M A (eval e env) (fun v s₁ => StarOf M A E v (fun vs s₂ => MethP K q g self s₂.heap ∧ wpAny M A (call (.ref q) (first ++ vs)) Q E s₂) s₁) E s)
    (he : starEach [.Starred e p] env = [(true, eval e env)] := by rfl) :
    wpAny M A (callWith pos (.ref q) first (backTo pos (starEach [.Starred e p] env)) []) Q E s := by
  rw [he]
  exact ks_call rfl (keeps_M hf) (ks_lone h)
end
end Mine
end

section
open PySem PySem.W PyProof.Rows PySem.Calls PySem.Spec
open Sem (wp)
open MeetsSeq
set_option Elab.async false
set_option maxRecDepth 100000
namespace Mine
section
variable {prog : Program} {w : World} {A : Around} {E : Value → Shared → Prop} {s : Shared} {env : Env} {h₀ : Heap} {Q : Flow → Shared → Prop}

noncomputable def LoopZ (prog : Program) (w : World) (A : Around) (env : Env) (target : Expr) (body orelse : List Stmt) (Q : Flow → Shared → Prop) (E : Value → Shared → Prop) (it : Value) (s₂ : Shared) : Prop :=
  ∃ (J : Nat → Shared → Prop) (n : Nat), J n s₂ ∧ (∀ v, letOwnedTupleGo target it v = pure ()) ∧ ∀ k s, J k s → wpAny (model prog w) A (pyNext it) (fun r s₁ => match r with
    | none => wpAny (model prog w) A (execs orelse env) Q E s₁
    | some v => wpAny (model prog w) A (assign target env v) (fun _ s₂ => wpAny (model prog w) A (execs body env) (fun f s₃ => match f with
        | .next | .cont => ∃ m, m < k ∧ J m s₃
        | .brk => Q .next s₃
        | .ret v => Q (.ret v) s₃) E s₂) E s₁) E s

theorem For_Z {target iter : Expr} {body orelse : List Stmt} {pos : Pos}
    (h : wpAny (model prog w) A (eval iter env) (fun xv s₁ => wpAny (model prog w) A (pyIter xv) (fun it s₂ => LoopZ prog w A env target body orelse Q E it s₂) E s₁) E s)
    (hs : ∀ x, foldedSetIterable iter env x = pure x := by intro _; rfl)
    (hE : PassesOwn (model prog w) A env E := by passes_own) :
    wpAny (model prog w) A (exec (.For target iter body orelse pos) env) Q E s := by
  refine wpAny_For (wpAny_mono h (fun xv s₁ h₁ => wpAny_mono h₁ (fun it s₂ h₂ => ?_) fun _ _ e => e) fun _ _ e => e) hs
  obtain ⟨J, n, hJ, ht, turn⟩ := h₂
  refine codeAny_forLoop (R := fun r s' => match r with | .ok f => Q f s' | .error e => cameBackBy (model prog w) A env E e s') J (fun k s hk => ?_) n hJ ht
  refine wpAny_passesOwn hE (wpAny_mono (turn k s hk) (fun r s₁ h₁ => ?_) fun _ _ e => e)
  cases r with
  | none => exact wpAny_passesOwn hE h₁
  | some v => exact wpAny_passesOwn hE (wpAny_mono h₁ (fun _ s₂ h₂ => wpAny_passesOwn hE (wpAny_mono h₂ (fun f s₃ h₃ => by cases f <;> exact h₃) fun _ _ e => e)) fun _ _ e => e)

structure Stepper (prog : Program) (w : World) (A : Around) (I : Addr) (n : Nat) (P : Nat → Value → Prop) (itP : Nat → Obj → Prop) (need : Heap → Prop) : Prop where
  item : ∀ i (s : Shared) (Q : Option Value → Shared → Prop) (E : Value → Shared → Prop) o, i < n → s.heap.get? I = some o → itP i o → need s.heap →
    (∀ v o' h' tk, P i v → itP (i + 1) o' → h'.get? I = some o' → Heap.SameBut I s.heap h' → Q (some v) { s with heap := h', toks := tk }) → wpAny (model prog w) A (pyNext (.ref I)) Q E s
  done : ∀ (s : Shared) (Q : Option Value → Shared → Prop) (E : Value → Shared → Prop) o, s.heap.get? I = some o → itP n o → need s.heap →
    (∀ h', Heap.ExtBut I s.heap h' → Q none { s with heap := h' }) → wpAny (model prog w) A (pyNext (.ref I)) Q E s

noncomputable def ZPost (h₀ : Heap) (L I : Addr) (itP : Obj → Prop) (os : OsState) (J : (Str → Option Value) → List (Addr × Obj) → Prop) (Q : Flow → Shared → Prop) (f : Flow) (s' : Shared) : Prop :=
  match f with
  | .ret v => Q (.ret v) s'
  | .brk => Q .next s'
  | _ => ∃ m' news' o, Fr h₀ L s'.heap m' ∧ News h₀ L s'.heap ((I, o) :: news') ∧ itP o ∧ (∀ p ∈ news', p.1 ≠ I) ∧ AllBare s'.gens ∧ s'.os = os ∧ J m' news'

theorem loopZ_iter {I : Addr} {x : Str} {px : Pos} {body : List Stmt} {n : Nat} {P : Nat → Value → Prop} {itP : Nat → Obj → Prop} {need : Heap → Prop} (St : Stepper prog w A I n P itP need)
    (J : Nat → (Str → Option Value) → List (Addr × Obj) → Prop) {m : Str → Option Value} {news : List (Addr × Obj)} {o : Obj} {os₀ : OsState}
    (hx : env.kindOf x = some .local) (hp : (env.scope.kind == .class || (env.scope.kind == .module && env.locals != env.globals)) = false)
    (F : Fr h₀ env.locals s.heap m) (N : News h₀ env.locals s.heap ((I, o) :: news)) (ho : itP 0 o) (hoff : ∀ p ∈ news, p.1 ≠ I) (G : AllBare s.gens) (hos : s.os = os₀) (hj : J 0 m news)
    (hneed : ∀ i m₁ news₁ h, J i m₁ news₁ → Fr h₀ env.locals h m₁ → News h₀ env.locals h news₁ → need h)
    (turn : ∀ i v m₁ news₁ o' s₁, i < n → P i v → J i m₁ news₁ → itP (i + 1) o' → (∀ p ∈ news₁, p.1 ≠ I) → Fr h₀ env.locals s₁.heap (fun y => if y = x then some v else m₁ y) → News h₀ env.locals s₁.heap ((I, o') :: news₁) → AllBare s₁.gens → s₁.os = os₀ →
      wpAny (model prog w) A (execs body env) (ZPost h₀ env.locals I (itP (i + 1)) os₀ (J (i + 1)) Q) E s₁)
    (done : ∀ m₁ news₁ s₁, J n m₁ news₁ → Fr h₀ env.locals s₁.heap m₁ → News h₀ env.locals s₁.heap news₁ → AllBare s₁.gens → s₁.os = os₀ → Q .next s₁) :
    LoopZ prog w A env (.Name x px) body [] Q E (.ref I) s := by
  have hIL := (N (I, o) (.head _)).2.1
  have hI0 := (N (I, o) (.head _)).2.2
  refine ⟨fun k s' => ∃ i m' news' o', Fr h₀ env.locals s'.heap m' ∧ News h₀ env.locals s'.heap ((I, o') :: news') ∧ itP i o' ∧ (∀ p ∈ news', p.1 ≠ I) ∧ AllBare s'.gens ∧ s'.os = os₀ ∧ J i m' news' ∧ i ≤ n ∧ k = n + 1 - i, n + 1,
    ⟨0, m, news, o, F, N, ho, hoff, G, hos, hj, Nat.zero_le _, rfl⟩, by intro _; rfl, ?_⟩
  rintro k s' ⟨i, m', news', o', F', N', ho', hoff', G', hos', hj', hi, rfl⟩
  have next : ∀ h₁ : Heap, Heap.ExtBut I s'.heap h₁ → Fr h₀ env.locals h₁ m' ∧ News h₀ env.locals h₁ news' := fun h₁ hk₁ =>
    ⟨⟨F'.ns.at' fun o e => hk₁ _ o (Ne.symm hIL) e, fun b o e => hk₁ b o (fun q => by rw [q, hI0] at e; cases e) (F'.keep b o e), F'.above⟩,
     fun p hp => ⟨hk₁ _ _ (hoff' p hp) (N' p (.tail _ hp)).1, (N' p (.tail _ hp)).2⟩⟩
  have hn := hneed i m' news' s'.heap hj' F' fun p hp => N' p (.tail _ hp)
  by_cases hlt : i < n
  · refine St.item i s' _ _ o' hlt (N' _ (.head _)).1 ho' hn fun v o₁ h₁ tk₁ hP ho₁ hg₁ hs₁ => ?_
    obtain ⟨F₁, N₁⟩ := next h₁ hs₁.extBut
    have N₁' : News h₀ env.locals h₁ ((I, o₁) :: news') := fun p hp => by
      rcases List.mem_cons.mp hp with rfl | hp
      · exact ⟨hg₁, hIL, hI0⟩
      · exact N₁ p hp
    refine wpAny_assign_Name (wpAny_storeName_local hx F₁.ns (fun h₂ hn₂ hs₂ => ?_) hp)
    refine wpAny_mono (turn i v m' news' o₁ _ hlt hP hj' ho₁ hoff' (F₁.set hn₂ hs₂) (N₁'.set hs₂) G' hos') (fun f s₃ h₃ => ?_) fun _ _ e => e
    cases f with
    | ret v => exact h₃
    | brk => exact h₃
    | cont => obtain ⟨m₂, news₂, o₂, F₂, N₂, ho₂, hoff₂, G₂, hos₂, hj₂⟩ := h₃; exact ⟨n + 1 - (i + 1), by omega, i + 1, m₂, news₂, o₂, F₂, N₂, ho₂, hoff₂, G₂, hos₂, hj₂, hlt, rfl⟩
    | next => obtain ⟨m₂, news₂, o₂, F₂, N₂, ho₂, hoff₂, G₂, hos₂, hj₂⟩ := h₃; exact ⟨n + 1 - (i + 1), by omega, i + 1, m₂, news₂, o₂, F₂, N₂, ho₂, hoff₂, G₂, hos₂, hj₂, hlt, rfl⟩
  · have hin : i = n := by omega
    subst hin
    refine St.done s' _ _ o' (N' _ (.head _)).1 ho' hn fun h₁ he₁ => ?_
    obtain ⟨F₁, N₁⟩ := next h₁ he₁
    exact wpAny_execs_nil (done m' news' _ hj' F₁ N₁ G' hos')

theorem stepper_list {I l : Addr} (hh : A.handled = none) {items : Array Value} :
    Stepper prog w A I items.size (fun i v => items[i]? = some v) (fun i o => o.cls = .type "list_iterator" ∧ o.data = .fields #[.ref l, .int i 0]) (fun h => SeqAt h l items) where
  item := fun i s Q E o hi ho hit hl hQ => by
    have hx : items[i]? = some items[i] := by simp [hi]
    refine next_item ⟨o, ho, hit.1, hit.2⟩ hl hx fun h' hit' hs' => ?_
    obtain ⟨o', ho', hc', hd'⟩ := hit'
    exact hQ _ o' h' s.toks hx ⟨hc', hd'⟩ ho' hs'
  done := fun s Q E o ho hit hl hQ => next_end hh ⟨o, ho, hit.1, hit.2⟩ hl (by simp) fun h' he' => hQ h' he'

theorem stepper_range {I : Addr} (hh : A.handled = none) {a : Int} {n : Nat} :
    Stepper prog w A I n (fun i v => ∃ t, v = .int (a + i) t) (fun i o => o = { cls := .type "range_iterator", data := .fields #[rawInt (a + i), rawInt ((n : Int) - i), rawInt 1] }) (fun _ => True) where
  item := fun i s Q E o hi ho hit _ hQ => by
    subst hit
    refine wpAny_pyNext_range_item ho (by omega) fun h' hit' hs' => ?_
    refine hQ _ _ h' _ ⟨_, rfl⟩ rfl ?_ hs'
    have e1 : a + ((i + 1 : Nat) : Int) = a + (i : Int) + 1 := by omega
    have e2 : (n : Int) - ((i + 1 : Nat) : Int) = n - (i : Int) - 1 := by omega
    rw [e1, e2]; exact hit'
  done := fun s Q E o ho hit _ hQ => by
    subst hit
    exact wpAny_pyNext_range_end hh ho (by omega) fun h' he' => hQ h' he'

theorem iterZ_range {r : Addr} {a b : Int} {t u v : Tok} {x : Str} {px : Pos} {body : List Stmt} {n : Nat} (J : Nat → (Str → Option Value) → List (Addr × Obj) → Prop) {m : Str → Option Value} {news : List (Addr × Obj)}
    (hr : IsRange s.heap r a b 1 t u v) (hsmall : Builtin.Range.small a b 1 = true) (hn : Builtin.Range.rangeSize a b 1 = (n : Int)) (hh : A.handled = none)
    (hx : env.kindOf x = some .local) (hp : (env.scope.kind == .class || (env.scope.kind == .module && env.locals != env.globals)) = false)
    (F : Fr h₀ env.locals s.heap m) (N : News h₀ env.locals s.heap news) (G : AllBare s.gens) (hj : J 0 m news)
    (turn : ∀ I i t m₁ news₁ o' s₁, (∀ p ∈ news, p.1 < I) → i < n → J i m₁ news₁ → (∀ p ∈ news₁, p.1 ≠ I) → Fr h₀ env.locals s₁.heap (fun y => if y = x then some (.int (a + i) t) else m₁ y) → News h₀ env.locals s₁.heap ((I, o') :: news₁) → AllBare s₁.gens → s₁.os = s.os →
      wpAny (model prog w) A (execs body env) (ZPost h₀ env.locals I (fun o => o = o') s.os (J (i + 1)) Q) E s₁)
    (done : ∀ m₁ news₁ s₁, J n m₁ news₁ → Fr h₀ env.locals s₁.heap m₁ → News h₀ env.locals s₁.heap news₁ → AllBare s₁.gens → s₁.os = s.os → Q .next s₁) :
    wpAny (model prog w) A (pyIter (.ref r)) (fun it s₂ => LoopZ prog w A env (.Name x px) body [] Q E it s₂) E s := by
  refine wpAny_pyIter_range hr hsmall ?_
  have N' := N.push F { cls := .type "range_iterator", data := .fields #[rawInt a, rawInt (Builtin.Range.rangeSize a b 1), rawInt 1] }
  have hlt : ∀ p ∈ news, p.1 < s.heap.objs.size := fun p hp => Heap.lt_size (N p hp).1
  refine loopZ_iter (stepper_range (a := a) (n := n) hh) J hx hp (F.push _) N' (by rw [hn]; simp) (fun p hp => Nat.ne_of_lt (hlt p hp)) G rfl hj (fun _ _ _ _ _ _ _ => trivial) ?_ done
  rintro i _ m₁ news₁ o' s₁ hi ⟨t, rfl⟩ hj₁ ho' hoff F₁ N₁ G₁ hos₁
  exact wpAny_mono (turn _ i t m₁ news₁ o' s₁ hlt hi hj₁ hoff F₁ N₁ G₁ hos₁) (fun f s₂ h₂ => by
    cases f with
    | ret v => exact h₂
    | brk => exact h₂
    | cont => obtain ⟨m₂, news₂, o₂, F₂, N₂, rfl, r⟩ := h₂; exact ⟨m₂, news₂, o₂, F₂, N₂, ho', r⟩
    | next => obtain ⟨m₂, news₂, o₂, F₂, N₂, rfl, r⟩ := h₂; exact ⟨m₂, news₂, o₂, F₂, N₂, ho', r⟩) fun _ _ e => e

theorem iterZ_list {l : Addr} {items : Array Value} {x : Str} {px : Pos} {body : List Stmt} (J : Nat → (Str → Option Value) → List (Addr × Obj) → Prop) {m : Str → Option Value} {news : List (Addr × Obj)}
    (hl : s.heap.IsList l items) (hh : A.handled = none)
    (hx : env.kindOf x = some .local) (hp : (env.scope.kind == .class || (env.scope.kind == .module && env.locals != env.globals)) = false)
    (F : Fr h₀ env.locals s.heap m) (N : News h₀ env.locals s.heap news) (G : AllBare s.gens) (hj : J 0 m news)
    (hneed : ∀ i m₁ news₁ h, J i m₁ news₁ → Fr h₀ env.locals h m₁ → News h₀ env.locals h news₁ → SeqAt h l items)
    (turn : ∀ I i v m₁ news₁ o' s₁, (∀ p ∈ news, p.1 < I) → items[i]? = some v → J i m₁ news₁ → (∀ p ∈ news₁, p.1 ≠ I) → Fr h₀ env.locals s₁.heap (fun y => if y = x then some v else m₁ y) → News h₀ env.locals s₁.heap ((I, o') :: news₁) → AllBare s₁.gens → s₁.os = s.os →
      wpAny (model prog w) A (execs body env) (ZPost h₀ env.locals I (fun o => o = o') s.os (J (i + 1)) Q) E s₁)
    (done : ∀ m₁ news₁ s₁, J items.size m₁ news₁ → Fr h₀ env.locals s₁.heap m₁ → News h₀ env.locals s₁.heap news₁ → AllBare s₁.gens → s₁.os = s.os → Q .next s₁) :
    wpAny (model prog w) A (pyIter (.ref l)) (fun it s₂ => LoopZ prog w A env (.Name x px) body [] Q E it s₂) E s := by
  refine wpAny_pyIter_list hl ?_
  have N' := N.push F { cls := .type "list_iterator", data := .fields #[.ref l, .int 0 0] }
  have hlt : ∀ p ∈ news, p.1 < s.heap.objs.size := fun p hp => Heap.lt_size (N p hp).1
  refine loopZ_iter (stepper_list (l := l) hh) J hx hp (F.push _) N' ⟨rfl, rfl⟩ (fun p hp => Nat.ne_of_lt (hlt p hp)) G rfl hj hneed ?_ done
  rintro i v m₁ news₁ o' s₁ hi hv hj₁ ho' hoff F₁ N₁ G₁ hos₁
  exact wpAny_mono (turn _ i v m₁ news₁ o' s₁ hlt hv hj₁ hoff F₁ N₁ G₁ hos₁) (fun f s₂ h₂ => by
    cases f with
    | ret v => exact h₂
    | brk => exact h₂
    | cont => obtain ⟨m₂, news₂, o₂, F₂, N₂, rfl, r⟩ := h₂; exact ⟨m₂, news₂, o₂, F₂, N₂, ho', r⟩
    | next => obtain ⟨m₂, news₂, o₂, F₂, N₂, rfl, r⟩ := h₂; exact ⟨m₂, news₂, o₂, F₂, N₂, ho', r⟩) fun _ _ e => e
end
end Mine
end

section
open PySem PySem.W PyProof.Rows PySem.Calls PySem.Spec
open Sem (wp)
open MeetsSeq
set_option Elab.async false
set_option maxRecDepth 100000
namespace Mine
section
variable {prog : Program} {w : World} {A : Around} {E : Value → Shared → Prop} {s : Shared} {env : Env} {h₀ : Heap} {Q : Flow → Shared → Prop} {m : Str → Option Value} {news : List (Addr × Obj)}

noncomputable def FirstPost (Q : Flow → Shared → Prop) (f : Flow) (s : Shared) : Prop :=
  match f with
  | .brk => Q .next s
  | .ret v => Q (.ret v) s
  | _ => False

theorem LoopZ.first {target it : Expr} {body orelse : List Stmt} {I : Value} (ht : ∀ v, letOwnedTupleGo target I v = pure ())
    (h : wpAny (model prog w) A (pyNext I) (fun r s₁ => ∃ v, r = some v ∧ wpAny (model prog w) A (assign target env v) (fun _ s₂ => wpAny (model prog w) A (execs body env) (FirstPost Q) E s₂) E s₁) E s) :
    LoopZ prog w A env target body orelse Q E I s := by
  refine ⟨fun k s' => k = 1 ∧ s' = s, 1, ⟨rfl, rfl⟩, ht, ?_⟩
  rintro k s' ⟨rfl, rfl⟩
  refine wpAny_mono h (fun r s₁ h₁ => ?_) fun _ _ e => e
  obtain ⟨v, rfl, h₁⟩ := h₁
  refine wpAny_mono h₁ (fun _ s₂ h₂ => wpAny_mono h₂ (fun f s₃ h₃ => ?_) fun _ _ e => e) fun _ _ e => e
  cases f with
  | ret v => exact h₃
  | brk => exact h₃
  | cont => exact h₃.elim
  | next => exact h₃.elim

theorem iterZ_str1 {sp : Str} {c : Nat} {ts : Tok} {x : Str} {px : Pos} {body orelse : List Stmt} (ha : sp.cps.all (· < 128) = true) (h0 : sp.cps[0]? = some c)
    (hx : env.kindOf x = some .local) (hp : (env.scope.kind == .class || (env.scope.kind == .module && env.locals != env.globals)) = false)
    (F : Fr h₀ env.locals s.heap m) (N : News h₀ env.locals s.heap news)
    (turn : ∀ t h tk, Fr h₀ env.locals h (fun y => if y = x then some (.str ⟨#[c]⟩ t) else m y) → News h₀ env.locals h news →
      wpAny (model prog w) A (execs body env) (FirstPost Q) E { s with heap := h, toks := tk }) :
    wpAny (model prog w) A (pyIter (.str sp ts)) (fun it s₂ => LoopZ prog w A env (.Name x px) body orelse Q E it s₂) E s := by
  refine wpAny_pyIter_ascii ha (LoopZ.first (it := .Name x px) (by intro _; rfl) ?_)
  refine wpAny_pyNext_ascii_item (i := 0) ⟨_, Heap.get?_push_size _ rfl, rfl, rfl⟩ h0 fun h' _ hs' => ⟨_, rfl, ?_⟩
  have F1 := F.push { cls := .type "str_ascii_iterator", data := .fields #[.str sp ts, .int 0 0] }
  have hL : s.heap.objs.size ≠ env.locals := Nat.ne_of_gt F.ns.lt
  have hI0 := next_is_new F
  have F2 : Fr h₀ env.locals h' m := F1.change hs' hL hI0
  have N2 : News h₀ env.locals h' news := fun p hp => ⟨(hs'.2 _ (Nat.ne_of_lt (Heap.lt_size (N p hp).1))).trans (Heap.get?_push_of_some _ (N p hp).1), (N p hp).2⟩
  exact wpAny_assign_Name (wpAny_storeName_local hx F2.ns (fun h₂ hn₂ hs₂ => turn _ _ _ (F2.set hn₂ hs₂) (N2.set hs₂)) hp)

theorem iterZ_down1 {r : Addr} {a b c : Int} {t u v : Tok} {x : Str} {px : Pos} {body orelse : List Stmt} (hr : IsRange s.heap r a b c t u v) (hsmall : Builtin.Range.small a b c = true) (hn : 0 < Builtin.Range.rangeSize a b c)
    (hx : env.kindOf x = some .local) (hp : (env.scope.kind == .class || (env.scope.kind == .module && env.locals != env.globals)) = false)
    (F : Fr h₀ env.locals s.heap m) (N : News h₀ env.locals s.heap news)
    (turn : ∀ t h tk, Fr h₀ env.locals h (fun y => if y = x then some (.int a t) else m y) → News h₀ env.locals h news →
      wpAny (model prog w) A (execs body env) (FirstPost Q) E { s with heap := h, toks := tk }) :
    wpAny (model prog w) A (pyIter (.ref r)) (fun it s₂ => LoopZ prog w A env (.Name x px) body orelse Q E it s₂) E s := by
  refine wpAny_pyIter_range hr hsmall (LoopZ.first (it := .Name x px) (by intro _; rfl) ?_)
  refine wpAny_pyNext_range_item (Heap.get?_push_size _ rfl) hn fun h' _ hs' => ⟨_, rfl, ?_⟩
  have F1 := F.push { cls := .type "range_iterator", data := .fields #[rawInt a, rawInt (Builtin.Range.rangeSize a b c), rawInt c] }
  have hL : s.heap.objs.size ≠ env.locals := Nat.ne_of_gt F.ns.lt
  have hI0 := next_is_new F
  have F2 : Fr h₀ env.locals h' m := F1.change hs' hL hI0
  have N2 : News h₀ env.locals h' news := fun p hp => ⟨(hs'.2 _ (Nat.ne_of_lt (Heap.lt_size (N p hp).1))).trans (Heap.get?_push_of_some _ (N p hp).1), (N p hp).2⟩
  exact wpAny_assign_Name (wpAny_storeName_local hx F2.ns (fun h₂ hn₂ hs₂ => turn _ _ _ (F2.set hn₂ hs₂) (N2.set hs₂)) hp)
end
theorem down_size {a : Int} (h : 1 ≤ a) : Builtin.Range.rangeSize a 0 (-1) = a := by
  unfold Builtin.Range.rangeSize
  simp
  omega
theorem down_small {a : Int} (h : 1 ≤ a) (h2 : a < 2 ^ 20) : Builtin.Range.small a 0 (-1) = true := by
  unfold Builtin.Range.small
  rw [down_size h]
  simp [Builtin.Range.rangeFitsLong]
  omega
end Mine
end

section
open PySem PySem.W PyProof.Rows PySem.Calls PySem.Spec
open Sem (wp)
open MeetsSeq
set_option Elab.async false
set_option maxRecDepth 100000
namespace Mine
section
variable {prog : Program} {w : World} {A : Around} {E : Value → Shared → Prop} {s : Shared} {h₀ : Heap} {L : Addr} {m : Str → Option Value} {K : Frag} {x C dx : Addr} {od : Option Obj} {n : Nat}
theorem acc_idx {value slice : Expr} {k : Int} {t : Tok} {v : Value} {its : List Value} {ws : List Value} {Q : Value → Shared → Prop} (F : Fr h₀ L s.heap m) (X₀ : K.In h₀) (I : InstAt s.heap x (accO C dx its.toArray n) C od) (hm : mroIn K C (.type "list") = some true) (hq : noSeq K C = true)
    (hs : findIn K (.ref C) "__getitem__" = some (some (.builtin "list.__getitem__"))) (h0 : 0 ≤ k) (hfit : k < 2 ^ 63) (hx : its[k.toNat]? = some v) (h : Q v s)
    (hsub : subscripted slice false (.ref x) (.int k t) = operate ws (getItem (.ref x) (.int k t))) : wpAny (model prog w) A (subscriptTail value slice (.ref x) (.int k t)) Q E s :=
  acc_tail (X₀.keeps F.keep) I hs hsub (acc_item (X₀.keeps F.keep) I hm hq hs h0 hfit (by simpa using hx) h)
end
end Mine
end

section
open PySem PySem.W PyProof.Rows PySem.Calls PySem.Spec
open PySem.Builtin PySem.Builtin.ObjectAttr
open Sem (wp)
open MeetsSeq
set_option Elab.async false
set_option maxRecDepth 100000
namespace Mine
theorem args_list_new (a b : Value) : argsOk "list.__new__" ⟨[a, b], []⟩ := by unfold argsOk; kernel_rfl
theorem kind_lnew : builtinKind "list.__new__" = some .builtinFn := by decide +kernel
theorem split_lnew : splitId "list.__new__" = some ("list", "__new__") := by decide +kernel
noncomputable def makesL (K : Frag) (C : Addr) : Bool := match K.lookup C with
  | some ⟨_, _, .cls cd, sl⟩ => !cd.abstract && !cd.hasDel && (sl.toList[4]?).join == some (.builtin "list.__new__") && !cd.mro.isEmpty && cd.mro.contains (.ref C) && cd.mro.contains (.type "list") &&
      specialIn K (.ref C) "__call__" == some (some (.builtin "type.__call__")) && instIn K (.ref C) (.type "type") == some true
  | _ => false
structure MakesL (M : Model) (h : Heap) (C : Addr) : Prop where
  obj : ∃ oc od cd sl, h.get? C = some ⟨oc, od, .cls cd, sl⟩ ∧ cd.abstract = false ∧ cd.hasDel = false ∧ cd.mro.isEmpty = false
  made : Looks M h (Bind.madeBy (.ref C)) (some "list.__new__")
  base : Looks M h (Bind.staticBase (.ref C)) (.ref C)
  self : Looks M h (isSubtype (.ref C) (.ref C)) true
  top : Looks M h (isSubtype (.ref C) (.type "list")) true
  call : Looks M h (specialOf (.ref C) "__call__") (some (.builtin "type.__call__"))
  typ : Looks M h (isInstance (.ref C) (.type "type")) true
theorem makesL_of {K : Frag} {M : Model} {h : Heap} (X : K.In h) {C : Addr} (e : makesL K C = true) : MakesL M h C := by
  unfold makesL at e
  split at e
  · rename_i oc od cd sl ho
    simp only [Bool.and_eq_true, Bool.not_eq_true', beq_iff_eq] at e
    obtain ⟨⟨⟨⟨⟨⟨⟨e1, e2⟩, e3⟩, e4⟩, e5⟩, e6⟩, e7⟩, e8⟩ := e
    have hc : clsIn K C = some cd := by unfold clsIn; rw [ho]
    have hm : Looks M h (mroOf (.ref C)) cd.mro := (looks_clsIn X hc).andThen .now
    obtain ⟨c, l, hl⟩ : ∃ c l, cd.mro = c :: l := List.exists_cons_of_ne_nil (by simpa using e4)
    have made : Looks M h (Bind.madeBy (.ref C)) (some "list.__new__") := by
      intro A Q E s k q
      unfold Bind.madeBy
      refine wpAny_bind (hm A _ E s k ?_)
      rw [hl, List.forIn_cons]
      refine wpAny_bind (wpAny_bind (wpAny_bind (wpAny_bind (wpAny_loadPart (k _ _ (X _ _ ho)) (wpAny_pure ?_)))))
      dsimp only
      rw [← Array.getElem?_toList, e3]
      exact wpAny_pure (wpAny_pure (wpAny_pure q))
    have base : Looks M h (Bind.staticBase (.ref C)) (.ref C) := by
      intro A Q E s k q
      unfold Bind.staticBase
      refine wpAny_bind (hm A _ E s k ?_)
      rw [hl, List.forIn_cons]
      exact wpAny_bind (wpAny_bind (wpAny_bind (made A _ E s k (wpAny_pure (wpAny_pure (wpAny_pure q))))))
    exact ⟨⟨oc, od, cd, sl, X _ _ ho, e1, e2, e4⟩, made, base, looks_mroIn X (by unfold mroIn; rw [hc, Option.bind_some, if_neg (by rw [e4]; decide), e5]),
      looks_mroIn X (by unfold mroIn; rw [hc, Option.bind_some, if_neg (by rw [e4]; decide), e6]), looks_specialIn X e7, looks_instIn X e8⟩
  · cases e
section
variable {prog : Program} {w : World} {A : Around} {K : Frag} {C : Addr} {R : Result → Shared → Prop} {h : Heap} {g : Array GenState} {d : Drawn} {t : Nat} {os : OsState}
theorem newL {a : Value} (Y : MakesL (model prog w) h C)
    (hq : R (.ok (.ret (.ref (h.objs.size + 1)))) ⟨(h.push emptyDict).push (accO C h.objs.size #[] 0), g, d, t, os⟩) :
    codeAny (model prog w) A (.call (.builtin "list.__new__") ⟨[.ref C, a], []⟩) R ⟨h, g, d, t, os⟩ := by
  obtain ⟨⟨oc, od, cd, sl, hC, e1, e2, e4⟩, made, base, self, top, call, typ⟩ := Y
  refine codeAny_of_tree ?_
  show wpAny _ A.in1 (do checkBuiltinCall "list.__new__" ⟨[.ref C, a], []⟩; again (.builtin "list.__new__" ⟨[.ref C, a], []⟩)) _ _ _
  have key : ∀ {Q : Unit → Shared → Prop} {E : Value → Shared → Prop}, Q () ⟨h, g, d, t, os⟩ → wpAny (model prog w) A.in1 (checkBuiltinCall "list.__new__" ⟨[.ref C, a], []⟩) Q E ⟨h, g, d, t, os⟩ := by
    intro Q E q
    simp only [checkBuiltinCall, kind_lnew, split_lnew]
    have hargs := args_list_new (.ref C) a
    cases hsig : Manifest.signature? "list.__new__" with
    | none => repeat (first | exact q | simp only [bne_self_eq_false, Bool.false_eq_true, if_false] | lk)
    | some sig =>
      simp only [argsOk, hsig] at hargs
      repeat (first | exact wpAny_of_eq hargs q | simp only [bne_self_eq_false, Bool.false_eq_true, if_false] | lk)
  refine wpAny_bind (key (wpAny_pure ⟨plainId_quiet PySem.F.plain_list_new _, codeAny_builtin_stack PySem.F.entry_list_new rfl fun p st => ?_⟩))
  rw [Around.under_plainId PySem.F.plain_list_new _]
  have hown := owner_list_new
  simp only [hown]
  repeat (first | simp only [Bool.false_eq_true, if_false, Bool.not_true] | lk)
  refine wpAny_load (Heap.get?_push_of_some _ (Heap.get?_push_of_some _ hC)) (wpAny_pure ?_)
  rw [e2]
  refine wpAny_pure (wpAny_pure ?_)
  show R _ _
  rw [Heap.size_push]
  exact hq

theorem makeL_core {a init : Value} (Y : MakesL (model prog w) h C) (hi : Looks (model prog w) h (typeLookup (.ref C) "__init__") (some init))
    (hb : ∀ self, Looks (model prog w) h (bindSpecial init self) (init, [self]))
    (hq : codeAny (model prog w) (A.under (.builtin "type.__call__" ⟨[.ref C, a], []⟩)) (.call init ⟨[.ref (h.objs.size + 1), a], []⟩) (InitBack (h.objs.size + 1) R) ⟨(h.push emptyDict).push (accO C h.objs.size #[] 0), g, d, t, os⟩) :
    codeAny (model prog w) A (.call (.ref C) ⟨[a], []⟩) R ⟨h, g, d, t, os⟩ := by
  have Y' := Y
  obtain ⟨⟨oc, od, cd, sl, hC, e1, e2, e4⟩, made, base, self, top, call, typ⟩ := Y
  have hm : Looks (model prog w) h (mroOf (.ref C)) cd.mro := ((Looks.ld (part := none) hC).andThen .now).andThen .now
  have k : ∀ b o, h.get? b = some o → ((h.push emptyDict).push (accO C h.objs.size #[] 0)).get? b = some o := fun b o e => Heap.get?_push_of_some _ (Heap.get?_push_of_some _ e)
  have hx : ((h.push emptyDict).push (accO C h.objs.size #[] 0)).get? (h.objs.size + 1) = some (accO C h.objs.size #[] 0) := by
    rw [← Heap.size_push h emptyDict]; exact Heap.get?_push_size _ rfl
  refine codeAny_of_tree ?_
  show wpAny _ _ (callAny (.ref C) _) _ _ _
  refine nd_load hC ?_
  show wpAny _ _ (callAny.viaDunder (.ref C) _) _ _ _
  unfold callAny.viaDunder
  refine wpAny_bind (call.at ?_)
  dsimp only
  rw [tc_bind]
  refine wpAny_bind (wpAny_pure (wpAny_bind (wpAny_pure ?_)))
  refine wpAny_pure (a := Fin.again (.call (.builtin "type.__call__") ⟨[.ref C, a], []⟩)) (And.intro rfl ?_)
  refine codeAny_call_builtin_at (Code.quiet_builtin _ (by decide +kernel)) entry_typeCall (check_slot tc_kind tc_split typ (tc_args _ _ _) ?_)
  unfold Builtin.«type.__call__»
  repeat (first | simp only [e4, Bool.false_eq_true, if_false] | with_reducible refine wpAny_call ?_ | lk)
  refine newL Y' ?_
  have t1 : Looks (model prog w) ((h.push emptyDict).push (accO C h.objs.size #[] 0)) (typeOf (.ref (h.objs.size + 1))) (.ref C) := (Looks.ld hx).andThen .now
  have s1 := self.keeps k
  have i1 := hi.keeps k
  have b1 := (hb (.ref (h.objs.size + 1))).keeps k
  unfold isInstance callSpecial? specialOf
  repeat (first | with_reducible refine wpAny_call ?_ | lk)
  refine codeAny_mono hq fun r s' z => ?_
  rcases r with e | (v | _ | _ | _) <;> first | exact z | exact z.elim | skip
  obtain ⟨rfl, z⟩ := z
  exact wpAny_pure (wpAny_pure z)
end
section
variable {prog : Program} {w : World} {A : Around} {E : Value → Shared → Prop} {K : Frag} {C : Addr} {s : Shared} {h₀ : Heap} {L : Addr} {m : Str → Option Value} {news : List (Addr × Obj)} {Q : Value → Shared → Prop}
theorem call_accC {a : Value} {fI : Addr} (F : Fr h₀ L s.heap m) (X₀ : K.In h₀) (N : News h₀ L s.heap news) (hm : makesL K C = true)
    (hi : findIn K (.ref C) "__init__" = some (some (.ref fI))) (hf : isFn K (.ref fI) = true)
    (h : ∀ x dx h', Fr h₀ L h' m → News h₀ L h' ((x, accO C dx #[] 0) :: (dx, dictOf [] 0) :: news) → (∀ p ∈ news, p.1 < dx) → dx < x →
      codeAny (model prog w) (A.under (.builtin "type.__call__" ⟨[.ref C, a], []⟩)) (.call (.ref fI) ⟨[.ref x, a], []⟩) (InitBack x fun r s' => match r with | .ok (.ret v) => Q v s' | .ok _ => False | .error e => E e s') { s with heap := h' }) :
    wpAny (model prog w) A (call (.ref C) [a]) Q E s := by
  have X := X₀.keeps F.keep
  obtain ⟨hh, g, d, t, os⟩ := s
  refine wpAny_call (makeL_core (makesL_of X hm) (looks_findIn X hi) (fun self => bind_fn X self (beq_iff_eq.mp hf)) (h _ hh.objs.size _ ((F.push _).push _) ?_ (fun p hp => Heap.lt_size (N p hp).1) (Nat.lt_succ_self _)))
  have := (N.push F emptyDict).push (F.push _) (accO C hh.objs.size #[] 0)
  rwa [Heap.size_push] at this
end
end Mine
end

section
open PySem PySem.W PyProof.Rows PySem.Calls PySem.Spec
open PySem.Builtin PySem.Builtin.ObjectAttr
open Sem (wp)
open MeetsSeq
set_option Elab.async false
set_option maxRecDepth 100000
namespace Mine
section
variable {prog : Program} {w : World} {A : Around} {E : Value → Shared → Prop} {s : Shared} {C dx L q x : Addr} {h₀ : Heap} {m : Str → Option Value} {news : List (Addr × Obj)} {n : Nat}
theorem call_binit0 {Q : Value → Shared → Prop} (F : Fr h₀ L s.heap m) (N : News h₀ L s.heap news) (hq : (q, boundO "method-wrapper" "list.__init__" x) ∈ news) (ha : (x, accO C dx #[] n) ∈ news)
    (h : ∀ h', Fr h₀ L h' m → News h₀ L h' news → Q .none { s with heap := h' }) :
    wpAny (model prog w) A (call (.ref q) []) Q E s := by
  have ho := (N _ ha).1
  refine bound_call (N _ hq).1 (.inr rfl) (fun _ _ _ h => check_bound_slot (by decide +kernel) (args_list_init1 _) h) (by decide +kernel) entry_list_init (initBody ho rfl (by simp) ?_)
  have e : Obj.mapSeq (fun _ => #[]) (accO C dx #[] n) = accO C dx #[] n := by simp [Obj.mapSeq]
  have k : ∀ b o, s.heap.get? b = some o → (s.heap.update x (Obj.mapSeq fun _ => #[])).get? b = some o := by
    intro b o hb
    by_cases hx : b = x
    · subst hx
      rw [ho] at hb
      rw [Heap.get?_update_self _ ho (by rw [e]; rfl), e]
      exact hb
    · exact ((Heap.SameBut.update s.heap x _).2 b hx).trans hb
  exact h _ (F.keeps k) (N.keeps k)
end
end Mine
end

section
open PySem PySem.W PyProof.Rows PySem.Calls PySem.Spec
open PySem.Builtin PySem.Builtin.Re
open Sem (wp)
open MeetsSeq
set_option Elab.async false
set_option maxRecDepth 100000
namespace Mine
noncomputable def driveP : Nat → Sre.M → Option Sre.M
  | 0, _ => none
  | n + 1, m => let m := m.runFor reTurnSteps; if m.outcome.isSome then some m else driveP n m
noncomputable def spanOf (m : Sre.M) : Option (Option (Nat × Nat)) := match m.outcome with
  | some .matched => some (some (m.start, m.handed))
  | some .failed => some none
  | _ => none
noncomputable def foundP (code text : Array Nat) (groups start : Nat) (must : Bool) : Option (Option (Nat × Nat)) := (driveP 64 (Sre.forSearch code text groups start text.size must)).bind spanOf
noncomputable def subSteps (code text : Array Nat) (groups : Nat) : Nat → Nat → Bool → Option (List (Nat × Nat))
  | 0, _, _ => none
  | k + 1, start, must => match foundP code text groups start must with
    | none => none
    | some none => some []
    | some (some (b, e)) => (subSteps code text groups k e (e == b)).map ((b, e) :: ·)
noncomputable def subPieces (text : Array Nat) (repl : Str) : Nat → List (Nat × Nat) → List Str
  | start, [] => if start < text.size then [⟨text.extract start text.size⟩] else []
  | start, (b, e) :: r => (if start < b then [(⟨text.extract start b⟩ : Str)] else []) ++ [repl] ++ subPieces text repl e r
section
variable {M : Model} {A : Around} {E : Value → Shared → Prop} {s : Shared}
theorem wp_drive : ∀ {k n : Nat} {m m' : Sre.M} {Q : Sre.M → Shared → Prop}, driveP k m = some m' → k ≤ n → Q m' s → wpAny M A (reDrive n m) Q E s
  | 0, _, _, _, _, h, _, _ => by cases h
  | k + 1, 0, _, _, _, _, hn, _ => absurd hn (Nat.not_succ_le_zero _)
  | k + 1, n + 1, m, m', Q, h, hn, q => by
    unfold reDrive
    dsimp only
    unfold driveP at h
    dsimp only at h
    split at h
    · rename_i hs
      rw [if_pos hs]
      cases h
      exact wpAny_pure q
    · rename_i hs
      rw [if_neg hs]
      exact wpAny_bind (wpAny_rule (wp_drive h (Nat.le_of_succ_le_succ hn) q))
theorem wp_found {code text : Array Nat} {groups start : Nat} {must : Bool} {r : Option (Nat × Nat)} {t : ReTarget} {Q : Option Sre.M → Shared → Prop} (ht : t.code = code ∧ t.text = text ∧ t.groups = groups ∧ t.lim = text.size)
    (h : foundP code text groups start must = some r) (q : ∀ mo : Option Sre.M, mo.map (fun m => (m.start, m.handed)) = r → Q mo s) : wpAny M A (reNextFound t start must) Q E s := by
  obtain ⟨rfl, rfl, rfl, e⟩ := ht
  unfold foundP at h
  obtain ⟨m, hm, hr⟩ := Option.bind_eq_some_iff.mp h
  unfold reNextFound reRunToEnd
  rw [e]
  refine wpAny_bind (wp_drive hm (by decide) ?_)
  have rules : ∀ {P : PUnit → Shared → Prop}, P ⟨⟩ s → wpAny M A (forIn (List.range Sre.names.size) PUnit.unit fun i _ => do
      if m.seen.has i = true then do
        rule (Sre.names.getD i "")
        pure (ForInStep.yield PUnit.unit)
      else pure (ForInStep.yield PUnit.unit)) P E s := fun {P} hP =>
    wpAny_mono (wpAny_forIn_list _ (fun _ _ s' => s' = s) (fun _ s' => s' = s) (fun x rest b s' hs => by
      subst hs
      split
      · exact wpAny_bind (wpAny_rule (wpAny_pure rfl))
      · exact wpAny_pure rfl) (fun _ _ hs => hs) _ _ rfl) (fun _ s' hs => by subst hs; exact hP) fun _ _ z => z
  refine wpAny_bind (rules ?_)
  unfold spanOf at hr
  split at hr
  · rename_i ho
    rw [ho]
    exact wpAny_pure (q (some m) (by cases hr; rfl))
  · rename_i ho
    rw [ho]
    exact wpAny_pure (q none (by cases hr; rfl))
  · cases hr
noncomputable def PatAt (h : Heap) (p : Addr) (code : Array Nat) (groups : Nat) : Prop :=
  ∃ op fs T oT ws n, h.get? p = some op ∧ op.cls = .type "re.Pattern" ∧ op.data = .fields fs ∧ fs.getD 5 .none = .ref T ∧ reRawNat (fs.getD 2 .none) = groups ∧ reRawNat (fs.getD 6 .none) = 0 ∧ h.get? T = some oT ∧ oT.cls = .type "tuple" ∧ oT.data = .seq ws n ∧ (ws.map reRawOf).map (·.toNat) = code ∧ op.dict = none
theorem PatAt.keeps {h h' : Heap} {p : Addr} {code : Array Nat} {groups : Nat} (x : PatAt h p code groups) (hk : ∀ b o, h.get? b = some o → h'.get? b = some o) : PatAt h' p code groups :=
  by
  obtain ⟨op, fs, T, oT, ws, n, h1, h2, h3, h4, h5, h6, h7, h8⟩ := x
  exact ⟨op, fs, T, oT, ws, n, hk _ _ h1, h2, h3, h4, h5, h6, hk _ _ h7, h8⟩
theorem PatAt.but {h h' : Heap} {p l : Addr} {code : Array Nat} {groups : Nat} (x : PatAt h p code groups) {its : Array Value} {c : Nat} (hl : h.get? l = some (listOf its c)) (hs : Heap.SameBut l h h') : PatAt h' p code groups := by
  obtain ⟨op, fs, T, oT, ws, n, h1, h2, h3, h4, h5, h6, h7, h8⟩ := x
  refine ⟨op, fs, T, oT, ws, n, (hs.2 p fun e => ?_).trans h1, h2, h3, h4, h5, h6, (hs.2 T fun e => ?_).trans h7, h8⟩
  · rw [e, hl] at h1
    rw [← Option.some.inj h1] at h2
    exact absurd (Value.type.inj h2) (by decide)
  · rw [e, hl] at h7
    have h8' := h8.1
    rw [← Option.some.inj h7] at h8'
    exact absurd (Value.type.inj h8') (by decide)
theorem wp_target {p : Addr} {x : Str} {tx : Tok} {code : Array Nat} {groups : Nat} {Q : ReTarget → Shared → Prop} (P : PatAt s.heap p code groups)
    (q : ∀ t : ReTarget, t.code = code ∧ t.text = x.cps ∧ t.groups = groups ∧ t.lim = x.cps.size → t.kind = 0 → Q t s) : wpAny M A (reWholeTarget (.ref p) (.str x tx)) Q E s := by
  obtain ⟨op, fs, T, oT, ws, n, h1, h2, h3, h4, h5, h6, h7, -, h8, h9, -⟩ := P
  unfold reWholeTarget fieldsOf reTextOf
  refine wpAny_bind (wpAny_bind (wpAny_load h1 ?_))
  rw [h3]
  refine wpAny_pure ?_
  show wpAny M A ((asStr? (.str x tx) >>= _) >>= _) _ _ _
  refine wpAny_bind (wpAny_bind (wpAny_pure (wpAny_pure ?_)))
  rw [h6]
  simp only [beq_self_eq_true, Bool.true_and, Bool.false_eq_true, if_false, show ((0 : Nat) == 1) = false from rfl, Bool.and_false, Bool.false_and]
  unfold reNoCollectionInside reRawItems
  simp only [show ((0 : Nat) == 1) = false from rfl, Bool.false_eq_true, if_false]
  refine wpAny_bind (wpAny_pure ?_)
  rw [h4]
  refine wpAny_bind (wpAny_bind (wpAny_seqItems h7 h8 (wpAny_pure (wpAny_pure (q _ ⟨h9, rfl, h5, rfl⟩ rfl)))))
end
theorem entry_sub_loop : entryFor table "re.Pattern.sub.loop" = some Builtin.«re.Pattern.sub.loop» := entryFor_of_tree (by kernel_rfl)
theorem plain_sub_loop : plainId "re.Pattern.sub.loop" = true := by decide +kernel
theorem strs_app : ∀ {vs vs' : List Value} {ss ss' : List Str}, StrsAre vs ss → StrsAre vs' ss' → StrsAre (vs ++ vs') (ss ++ ss')
  | _, _, _, _, .nil, h => h
  | _, _, _, _, .cons x t h, h' => .cons x t (strs_app h h')
section
variable {prog : Program} {w : World} {A : Around} {s : Shared} {R : Result → Shared → Prop}
theorem upd_list {l : Addr} {its : List Value} {c : Nat} {v : Value} {h : Heap} (hl : h.get? l = some (listOf its.toArray c)) : (h.update l (Obj.mapSeq fun xs => xs.push v)).get? l = some (listOf (its ++ [v]).toArray (c + 1)) := by
  have e : Obj.mapSeq (fun xs => xs.push v) (listOf its.toArray c) = listOf (its ++ [v]).toArray (c + 1) := by simp [Obj.mapSeq]
  rw [Heap.get?_update_self _ hl (by rw [e]; rfl), e]
theorem wp_push {E : Value → Shared → Prop} {l : Addr} {its : List Value} {c : Nat} {v : Value} {Q : Unit → Shared → Prop} (hl : s.heap.get? l = some (listOf its.toArray c)) (hz : its.length ≤ 1000)
    (h : ∀ h', Heap.SameBut l s.heap h' → h'.get? l = some (listOf (its ++ [v]).toArray (c + 1)) → Q () { s with heap := h' }) : wpAny (model prog w) A (updateSeq l (·.push v)) Q E s :=
  wpAny_updateSeq hl rfl (h _ (Heap.SameBut.update ..) (upd_list hl)) (by rw [sizeLine_eq]; simp; omega) (by rw [sizeLine_eq]; simp; omega)
theorem sub_loop {p l : Addr} {x repl : Str} {tx tr : Tok} {code : Array Nat} {groups : Nat} (hx : x.cps.size ≤ 1000) : ∀ (k : Nat) (start : Nat) (must : Bool) (ms : List (Nat × Nat)) (n : Int) (t1 t2 t3 t4 t5 : Tok) (acc : List Str) (its : List Value) (c : Nat) (s : Shared),
    subSteps code x.cps groups k start must = some ms → PatAt s.heap p code groups → s.heap.get? l = some (listOf its.toArray c) → StrsAre its acc → its.length + 2 * k ≤ 900 →
    (((acc ++ subPieces x.cps repl start ms).map (·.length)).sum ≤ 16777216) →
    (∀ h' tk t', Heap.SameBut l s.heap h' → R (.ok (.ret (.str (Txt.join "" (acc ++ subPieces x.cps repl start ms)) t'))) { s with heap := h', toks := tk }) →
    codeAny (model prog w) A (.builtin "re.Pattern.sub.loop" ⟨[.ref p, .str x tx, .str repl tr, .int 0 t1, .int 0 t2, .int n t3, .int start t4, .int start t5, .bool must, .ref l, .bool false], []⟩) R s
  | 0, _, _, _, _, _, _, _, _, _, _, _, _, _, h, _, _, _, _, _, _ => by cases h
  | k + 1, start, must, ms, n, t1, t2, t3, t4, t5, acc, its, c, s, h, P, hl, hi, hz, hb, hR => by
    refine codeAny_builtin entry_sub_loop ?_
    rw [Around.under_plainId plain_sub_loop _]
    unfold Builtin.«re.Pattern.sub.loop»
    dsimp only
    refine wpAny_bind (wp_target P fun t ht hk => ?_)
    refine wpAny_bind (m := reLiteralCannotBeTurned _) ?_
    unfold reLiteralCannotBeTurned
    refine wpAny_bind (m := asStr? (.str repl tr)) (wpAny_pure ?_)
    refine wpAny_pure ?_
    simp only [Int.toNat_natCast, hk]
    have h00 : ((0 : Int) != 0 && decide (n ≥ 0)) = false := by simp
    rw [h00]
    simp only [Bool.false_eq_true, if_false, beq_self_eq_true, if_true]
    have slice : ∀ (b e : Nat) {Q : Value → Shared → Prop} {s' : Shared} {E : Value → Shared → Prop}, (∀ t', Q (.str ⟨x.cps.extract b e⟩ t') { s' with toks := s'.toks + 1 }) → wpAny (model prog w) A.in1 (reSlice t.text 0 b e) Q E s' := by
      intro b e Q s' E q
      unfold reSlice
      rw [ht.2.1]
      refine wpAny_mkStr (q _) ?_
      rw [sizeLine_eq]
      show (x.cps.extract b e).size ≤ _
      rw [Array.size_extract]
      omega
    have hsub := h
    unfold subSteps at hsub
    cases hf : foundP code x.cps groups start must with
    | none => rw [hf] at hsub; cases hsub
    | some r =>
      rw [hf] at hsub
      refine wpAny_bind (wp_found ⟨ht.1, rfl, ht.2.2.1, by rw [ht.2.2.2, ht.2.1]⟩ (by rw [ht.2.1]; exact hf) fun mo hmo => ?_)
      cases r with
      | none =>
        cases mo with
        | some m => cases hmo
        | none =>
        cases hsub
        dsimp only
        rw [ht.2.2.2]
        have fin : ∀ (its' : List Value) (ss' : List Str) (c' : Nat) (h' : Heap) (tk : Nat), Heap.SameBut l s.heap h' → h'.get? l = some (listOf its'.toArray c') → StrsAre its' ss' → ss' = acc ++ subPieces x.cps repl start [] →
            wpAny (model prog w) A.in1 (do
              let joiner ← reSlice t.text 0 0 0
              let __do_lift ← seqItems? (.ref l)
              if (__do_lift.getD #[]).isEmpty = true then do
                let text ← pure joiner
                ret text
              else do
                let text ← call (.builtin "str.join") [joiner, .ref l]
                ret text) (fun fin s' => match fin with | .done f => R (.ok f) s' | .again c' => c'.quiet = true ∧ codeAny (model prog w) A c' R s') (fun e s' => R (.error e) s') { s with heap := h', toks := tk } := by
          intro its' ss' c' h' tk hs' hl' hi' hss
          refine wpAny_bind (slice 0 0 fun t' => ?_)
          refine wpAny_bind (wpAny_seqItems hl' rfl ?_)
          have e0 : (⟨x.cps.extract 0 0⟩ : Str) = "" := by
            rw [Array.extract_zero]; rfl
          have l0 : (Str.ofString "").length = 0 := rfl
          rw [e0]
          rw [← hss] at hR hb
          split
          · rename_i he
            have hn : its' = [] := by simpa using he
            subst hn
            have hn2 : ss' = [] := List.eq_nil_of_length_eq_zero hi'.length.symm
            rw [hn2] at hR
            exact wpAny_bind (wpAny_pure (wpAny_pure (hR h' _ _ hs')))
          · exact wpAny_bind (join_list (items := its'.toArray) ⟨_, hl', rfl, _, rfl⟩ hi' (by rw [l0]; omega) fun t'' k'' => wpAny_pure (hR h' _ _ hs'))
        split
        · rename_i hlt
          refine wpAny_bind (slice _ _ fun t' => ?_)
          refine wpAny_bind (wp_push hl (by omega) fun h' hs' hl' => ?_)
          refine fin _ _ _ h' _ hs' hl' (strs_app hi (.cons _ t' .nil)) ?_
          simp only [subPieces, if_pos hlt]
        · rename_i hlt
          refine fin its acc c s.heap s.toks (Heap.SameBut.refl _ _) hl hi ?_
          simp only [subPieces, if_neg hlt, List.append_nil]
      | some be =>
        obtain ⟨b, e⟩ := be
        cases mo with
        | none => cases hmo
        | some m =>
        obtain ⟨rfl, rfl⟩ : m.start = b ∧ m.handed = e := by simpa using hmo
        obtain ⟨ms', hms', rfl⟩ := Option.map_eq_some_iff.mp hsub
        have fin : ∀ (its' : List Value) (ss' : List Str) (c' : Nat) (h' : Heap) (tk : Nat), Heap.SameBut l s.heap h' → h'.get? l = some (listOf its'.toArray c') → StrsAre its' ss' → its'.length ≤ its.length + 1 → acc ++ subPieces x.cps repl start ((m.start, m.handed) :: ms') = ss' ++ [repl] ++ subPieces x.cps repl m.handed ms' →
            wpAny (model prog w) A.in1 (do
              updateSeq l fun y => y.push (.str repl tr)
              again (.builtin "re.Pattern.sub.loop" ⟨[.ref p, .str x tx, .str repl tr, rawInt 0, rawInt 0, rawInt (n + 1), rawInt (m.handed : Int), rawInt (m.handed : Int), .bool (m.handed == m.start), .ref l, .bool false], []⟩))
              (fun fin s' => match fin with | .done f => R (.ok f) s' | .again c' => c'.quiet = true ∧ codeAny (model prog w) A c' R s') (fun e s' => R (.error e) s') { s with heap := h', toks := tk } := by
          intro its' ss' c' h' tk hs' hl' hi' hz' hss
          rw [hss] at hR hb
          refine wpAny_bind (wp_push hl' (by omega) fun h'' hs'' hl'' => wpAny_pure ⟨plainId_quiet plain_sub_loop _, ?_⟩)
          refine sub_loop hx k m.handed (m.handed == m.start) ms' (n + 1) 0 0 0 0 0 (ss' ++ [repl]) (its' ++ [.str repl tr]) (c' + 1) _ hms' ((P.but hl hs').but hl' hs'') hl'' (strs_app hi' (.cons _ tr .nil)) (by simp; omega) hb fun h3 tk3 t3' hs3 => ?_
          exact hR h3 tk3 t3' ((hs'.trans hs'').trans hs3)
        dsimp only
        have hne : (Value.str repl tr != Value.none) = true := rfl
        split
        · rename_i hlt
          refine wpAny_bind (slice _ _ fun t' => ?_)
          refine wpAny_bind (wp_push hl (by omega) fun h' hs' hl' => ?_)
          refine wpAny_bind (wpAny_pure ?_)
          rw [if_pos hne]
          refine fin _ _ _ h' _ hs' hl' (strs_app hi (.cons _ t' .nil)) (by simp) ?_
          simp only [subPieces, if_pos hlt, List.append_assoc]
        · rename_i hlt
          refine wpAny_bind (wpAny_pure ?_)
          rw [if_pos hne]
          refine fin its acc c s.heap s.toks (Heap.SameBut.refl _ _) hl hi (by simp) ?_
          simp only [subPieces, if_neg hlt, List.nil_append, List.append_assoc]
end
end Mine
end

section
open PySem PySem.W PyProof.Rows PySem.Calls PySem.Spec
open PySem.Builtin PySem.Builtin.Re
open Sem (wp)
open MeetsSeq
set_option Elab.async false
set_option maxRecDepth 100000
namespace Mine
theorem entry_sub : entryFor table "re.Pattern.sub" = some Builtin.«re.Pattern.sub» := entryFor_of_tree (by kernel_rfl)
theorem plain_sub : plainId "re.Pattern.sub" = true := by decide +kernel
theorem kind_sub : builtinKind "re.Pattern.sub" = some .method := by decide +kernel
theorem split_sub : splitId "re.Pattern.sub" = some ("re.Pattern", "sub") := by decide +kernel
theorem args_sub (a b c : Value) : argsOk "re.Pattern.sub" ⟨[a, b, c], []⟩ := by unfold argsOk; kernel_rfl
theorem isSub_pat : isSubtype (.type "re.Pattern") (.type "re.Pattern") = pure true := by rw [isSubtype_type]; kernel_rfl
theorem str_no_call : typeLookup (.type "str") "__call__" = pure none := by rw [typeLookup_type, builtinLookup_eq_fast]; kernel_rfl
theorem named_sub (a b : Value) : reNamed "re.Pattern.sub" "sub" ["repl", "string", "count"] 2 [a, b] [] = pure [some a, some b, none] := by kernel_rfl
section
variable {prog : Program} {w : World} {A : Around} {E : Value → Shared → Prop} {s : Shared} {L p : Addr} {h₀ : Heap} {m : Str → Option Value} {news : List (Addr × Obj)}
theorem chk_sub {M : Model} {a b c : Value} {Q : Unit → Shared → Prop} (hI : Looks M s.heap (isInstance a (.type "re.Pattern")) true) (h : Q () s) : wpAny M A (checkBuiltinCall "re.Pattern.sub" ⟨[a, b, c], []⟩) Q E s := by
  have e := args_sub a b c
  refine Mine.check_meth (rest := [b, c]) (owner := "re.Pattern") (n := "sub") ?_ ?_ ?_ ?_ ?_
  · exact kind_sub
  · exact split_sub
  · exact hI
  · exact e
  · exact h
theorem call_sub {x repl : Str} {tx tr : Tok} {code : Array Nat} {groups k : Nat} {ms : List (Nat × Nat)} {Q : Value → Shared → Prop} (F : Fr h₀ L s.heap m) (N : News h₀ L s.heap news) (P : PatAt s.heap p code groups)
    (hx : x.cps.size ≤ 1000) (hr : repl.cps.contains 92 = false) (hk : 2 * k ≤ 900) (h : subSteps code x.cps groups k 0 false = some ms) (hb : ((subPieces x.cps repl 0 ms).map (·.length)).sum ≤ 16777216)
    (hQ : ∀ h' tk t', Fr h₀ L h' m → News h₀ L h' news → Q (.str (Txt.join "" (subPieces x.cps repl 0 ms)) t') { s with heap := h', toks := tk }) :
    wpAny (model prog w) A (call (.builtin "re.Pattern.sub") [.ref p, .str repl tr, .str x tx]) Q E s := by
  have hT : s.TypeIs (.ref p) "re.Pattern" := by obtain ⟨op, fs, T, oT, ws, n, h1, h2, -⟩ := P; exact ⟨op, h1, h2⟩
  have hI : Looks (model prog w) s.heap (isInstance (.ref p) (.type "re.Pattern")) true := by
    obtain ⟨op, fs, T, oT, ws, n, h1, h2, -⟩ := P
    have t1 : Looks (model prog w) s.heap (typeOf (.ref p)) (.type "re.Pattern") := by
      refine (Looks.ld h1).andThen ?_
      rw [← h2]
      exact .now
    exact t1.andThen (Looks.of_pure isSub_pat)
  refine wpAny_call (codeAny_call_builtin plain_sub entry_sub ?_)
  have hc : wpAny (model prog w) A.in1 (Builtin.«re.Pattern.sub» ⟨[.ref p, .str repl tr, .str x tx], []⟩) (fun fin s' => match fin with
      | .done f => wants Q E (.ok f) s'
      | .again c' => c'.quiet = true ∧ codeAny (model prog w) A c' (wants Q E) s') (fun e s' => wants Q E (.error e) s') s := by
    unfold Builtin.«re.Pattern.sub» reSubstitute
    dsimp only
    refine wpAny_bind (wpAny_of_eq (named_sub _ _) ?_)
    dsimp only
    refine wpAny_bind (wpAny_pure ?_)
    refine wpAny_bind (m := specialOf (.str repl tr) "__call__") (wpAny_specialOf (typeIs_str s repl tr) str_no_call ?_)
    simp only [Option.isSome_none, Bool.false_eq_true, if_false]
    refine wpAny_bind (m := asStr? (.str repl tr)) (wpAny_pure ?_)
    dsimp only
    simp only [hr, Bool.not_false, if_true]
    refine wpAny_bind (wpAny_pure ?_)
    rw [if_pos rfl]
    refine wpAny_bind (wpAny_pure ?_)
    refine wpAny_bind (wpAny_holding (wp_target P fun t _ _ => ?_))
    dsimp only
    rw [if_neg (by decide)]
    refine wpAny_bind (wpAny_newObj_type ?_ (by size_fits))
    have F₁ := F.push { cls := .type "list", data := .seq #[] }
    have N₁ := N.push F { cls := .type "list", data := .seq #[] }
    have hl := (N₁ _ (.head _)).1
    have hl2 := (N₁ _ (.head _)).2
    have hne : ∀ q ∈ news, q.1 ≠ s.heap.objs.size := fun q hq => Nat.ne_of_lt (Heap.lt_size (N q hq).1)
    have P₁ := P.keeps (h' := s.heap.push { cls := .type "list", data := .seq #[] }) fun b o e => Heap.get?_push_of_some _ e
    refine wpAny_pure ⟨plainId_quiet plain_sub_loop _, ?_⟩
    refine sub_loop hx k 0 false ms 0 0 0 0 0 0 [] [] 0 _ h P₁ hl .nil (by simpa using hk) (by simpa using hb) fun h' tk t' hs' => ?_
    refine hQ h' tk t' (F₁.change hs' hl2.1 hl2.2) fun q hq => ⟨?_, (N q hq).2⟩
    exact (hs'.2 _ (hne q hq)).trans (N₁ _ (.tail _ hq)).1
  exact chk_sub hI hc
end
end Mine
end

section
open PySem PySem.W PyProof.Rows PySem.Calls PySem.Spec
open PySem.Builtin PySem.Builtin.Re
open Sem (wp)
open MeetsSeq
set_option Elab.async false
set_option maxRecDepth 100000
namespace Mine
noncomputable def patIn (K : Frag) (p : Addr) (code : Array Nat) : Bool := match K.lookup p with
  | some ⟨.type T, none, .fields fs, _⟩ => T == "re.Pattern" && reRawNat (fs.getD 2 .none) == 0 && reRawNat (fs.getD 6 .none) == 0 && (match fs.getD 5 .none with
    | .ref T => (match K.lookup T with
      | some ⟨.type T2, _, .seq ws _, _⟩ => T2 == "tuple" && (ws.map reRawOf).map (·.toNat) == code
      | _ => false)
    | _ => false)
  | _ => false
theorem patAt_of {K : Frag} {h : Heap} {p : Addr} {code : Array Nat} (X : K.In h) (e : patIn K p code = true) : PatAt h p code 0 := by
  unfold patIn at e
  split at e
  · rename_i T fs sl ho
    simp only [Bool.and_eq_true, beq_iff_eq] at e
    obtain ⟨⟨⟨rfl, e2⟩, e3⟩, e4⟩ := e
    split at e4
    · rename_i T hT
      split at e4
      · rename_i T2 od2 ws n sl2 ho2
        simp only [Bool.and_eq_true, beq_iff_eq] at e4
        obtain ⟨rfl, e5⟩ := e4
        exact ⟨_, fs, T, _, ws, n, X _ _ ho, rfl, rfl, hT, e2, e3, X _ _ ho2, rfl, rfl, e5, rfl⟩
      · cases e4
    · cases e4
  · cases e
theorem plainAttrs_pat : PlainAttrs "re.Pattern" := ⟨⟨"object.__getattribute__", by rw [typeLookup_type, builtinLookup_eq_fast]; kernel_rfl, by decide +kernel⟩, by rw [typeLookup_type, builtinLookup_eq_fast]; kernel_rfl⟩
theorem slot_pat_sub : Slot "re.Pattern" "sub" "re.Pattern.sub" := .of (owner := "re.Pattern") (n := "sub") (by rw [typeLookup_type, builtinLookup_eq_fast]; kernel_rfl) (by decide +kernel) (by decide +kernel) (by decide +kernel)
  (by first | exact .inl (by decide +kernel) | exact .inr (by decide +kernel)) (by rw [isSubtype_type]; kernel_rfl)
theorem type_pat_sub : typeOf (.builtin "re.Pattern.sub") = pure (.type "method_descriptor") := by show builtinType _ = _; rw [builtinType_eq_fast]; kernel_rfl
theorem pat_meth {M : Model} {A : Around} {E : Value → Shared → Prop} {s : Shared} {K : Frag} {p L : Addr} {h₀ : Heap} {m : Str → Option Value} {code : Array Nat} {pl : Sem Bool} {Q : Value × List Value → Shared → Prop} (F : Fr h₀ L s.heap m) (X₀ : K.In h₀) (e : patIn K p code = true)
    (h : Q (.builtin "re.Pattern.sub", [.ref p]) s) : wpAny M A (getMethod (.ref p) "sub" pl) Q E s := by
  obtain ⟨op, fs, T, oT, ws, n, h1, h2, h3, h4, h5, h6, h7, h8, h9, h10, h11⟩ := patAt_of (X₀.keeps F.keep) e
  exact getMethod_builtin ⟨op, h1, h2⟩ plainAttrs_pat slot_pat_sub type_pat_sub (fun a ha => by cases ha; exact ⟨op, h1, h11⟩) h
noncomputable def subOf (code : Array Nat) (repl x : Str) : Option Str :=
  if x.cps.size ≤ 1000 then (subSteps code x.cps 0 200 0 false).bind fun ms => if ((subPieces x.cps repl 0 ms).map (·.length)).sum ≤ 16777216 then some (Txt.join "" (subPieces x.cps repl 0 ms)) else none else none
theorem call_subOf {prog : Program} {w : World} {A : Around} {E : Value → Shared → Prop} {s : Shared} {K : Frag} {p L : Addr} {h₀ : Heap} {m : Str → Option Value} {news : List (Addr × Obj)} {x repl y : Str} {tx tr : Tok} {code : Array Nat} {Q : Value → Shared → Prop}
    (F : Fr h₀ L s.heap m) (X₀ : K.In h₀) (N : News h₀ L s.heap news) (e : patIn K p code = true) (hr : repl.cps.contains 92 = false) (h : subOf code repl x = some y)
    (hQ : ∀ h' tk t', Fr h₀ L h' m → News h₀ L h' news → Q (.str y t') { s with heap := h', toks := tk }) :
    wpAny (model prog w) A (call (.builtin "re.Pattern.sub") [.ref p, .str repl tr, .str x tx]) Q E s := by
  unfold subOf at h
  split at h
  · rename_i hx
    obtain ⟨ms, hm, h⟩ := Option.bind_eq_some_iff.mp h
    split at h
    · rename_i hb
      rw [← Option.some.inj h] at hQ
      exact call_sub F N (patAt_of (X₀.keeps F.keep) e) hx hr (by decide) hm hb hQ
    · cases h
  · cases h
end Mine
end

section
open PySem PySem.W PyProof.Rows PySem.Calls PySem.Spec
open PySem.Builtin PySem.Builtin.Str
open Sem (wp)
open MeetsSeq
set_option Elab.async false
set_option maxRecDepth 100000
namespace Mine
section
variable {prog : Program} {w : World} {A : Around} {E : Value → Shared → Prop} {s : Shared} {h₀ : Heap} {L : Addr} {m : Str → Option Value} {news : List (Addr × Obj)} {Q : Value → Shared → Prop}
theorem split_N {x y : Str} {t u : Tok} (F : Fr h₀ L s.heap m) (N : News h₀ L s.heap news) (hy : (y.length == 0) = false)
    (hsz : x.length ≤ sizeLine) (hsz2 : (partsBetween x (occurrences x y 0 x.length (x.length + 1)) y.length).length ≤ sizeLine)
    (h : ∀ (l : List (Str × Tok)) a h' tk, l.map (·.1) = Txt.split x y → Fr h₀ L h' m → News h₀ L h' ((a, listOf (strValues l).toArray 0) :: news) → (∀ p ∈ news, p.1 < a) → Q (.ref a) { s with heap := h', toks := tk }) :
    wpAny (model prog w) A (call (.builtin "str.split") [.str x t, .str y u]) Q E s := by
  have hlt : ∀ p ∈ news, p.1 < s.heap.objs.size := fun p hp => Heap.lt_size (N p hp).1
  have fin : ∀ (l : List (Str × Tok)) tk, l.map (·.1) = Txt.split x y → Q (.ref s.heap.objs.size) { s with heap := s.heap.push (listOf (strValues l).toArray 0), toks := tk } := fun l tk hl =>
    h l _ _ tk hl (F.push _) (N.push F _) hlt
  cases h1 : (decide (x.length < y.length) || decide (strKind x < strKind y))
  · cases hf : (occurrences x y 0 x.length (x.length + 1)).isEmpty
    · refine call_meets PySem.F.slot_str_split (typeIs_str _ _ _) PySem.F.entry_str_split (PySem.F.args_str_split_2 _ _) (meets_str_split_sep x y t u h1 hy hf hsz hsz2) ?_
      show wants Q E _ { s with toks := _, heap := s.heap.push { cls := .type "list", data := .seq (strsFrom s.toks (partsBetween x (occurrences x y 0 x.length (x.length + 1)) y.length)).toArray } }
      rw [strsFrom_eq]
      exact fin (numbered s.toks _) _ ((numbered_texts _ _).trans ((if_neg (ne_true_of_eq_false h1)).trans (if_neg (ne_true_of_eq_false hf))).symm)
    · exact call_meets PySem.F.slot_str_split (typeIs_str _ _ _) PySem.F.entry_str_split (PySem.F.args_str_split_2 _ _) (meets_str_split_not_found x y t u h1 hy hf)
        (fin [(x, t)] s.toks ((if_neg (ne_true_of_eq_false h1)).trans (if_pos hf)).symm)
  · exact call_meets PySem.F.slot_str_split (typeIs_str _ _ _) PySem.F.entry_str_split (PySem.F.args_str_split_2 _ _) (meets_str_split_cannot_occur x y t u h1)
      (fin [(x, t)] s.toks (if_pos h1).symm)
end
noncomputable def splitOk (x y : Str) : Bool := decide (x.length ≤ 200) && decide ((partsBetween x (occurrences x y 0 x.length (x.length + 1)) y.length).length ≤ 200) && !(y.length == 0)
theorem split_ok {prog : Program} {w : World} {A : Around} {E : Value → Shared → Prop} {s : Shared} {h₀ : Heap} {L : Addr} {m : Str → Option Value} {news : List (Addr × Obj)} {Q : Value → Shared → Prop} {x y : Str} {t u : Tok} (F : Fr h₀ L s.heap m) (N : News h₀ L s.heap news) (e : splitOk x y = true)
    (h : ∀ (l : List (Str × Tok)) a h' tk, l.map (·.1) = Txt.split x y → Fr h₀ L h' m → News h₀ L h' ((a, listOf (strValues l).toArray 0) :: news) → (∀ p ∈ news, p.1 < a) → Q (.ref a) { s with heap := h', toks := tk }) :
    wpAny (model prog w) A (call (.builtin "str.split") [.str x t, .str y u]) Q E s := by
  unfold splitOk at e
  simp only [Bool.and_eq_true, decide_eq_true_eq, Bool.not_eq_true'] at e
  exact split_N F N e.2 (by rw [sizeLine_eq]; omega) (by rw [sizeLine_eq]; omega) h
noncomputable def dots (n : Nat) : Str := ⟨(List.replicate n 46).toArray⟩
theorem dots_len (n : Nat) : (dots n).length = n := by show (List.replicate n 46).toArray.size = n; simp
theorem dots_mul (n : Nat) : Txt.mul "." (n : Int) = dots n := by
  have key : ∀ (k : Nat) (a : Array Nat), (List.replicate k #[46]).foldl (· ++ ·) a = a ++ (List.replicate k 46).toArray := by
    intro k
    induction k with
    | zero => intro a; simp
    | succ k ih =>
      intro a
      rw [List.replicate_succ, List.foldl_cons, ih, List.replicate_succ]
      apply Array.ext'
      simp
  unfold Txt.mul
  by_cases h : (n : Int) < 1
  · rw [if_pos h]
    have : n = 0 := by omega
    subst this
    rfl
  · rw [if_neg h]
    by_cases h1 : n = 1
    · subst h1; rfl
    · have e : ((n : Int) == 1 || (Str.ofString ".").length == 0) = false := by
        have : ((n : Int) == 1) = false := by simp; omega
        rw [this]; rfl
      rw [e]
      simp only [Bool.false_eq_true, if_false]
      have c : (Str.ofString ".").cps = #[46] := by decide +kernel
      rw [c, Int.toNat_natCast, key]
      simp [dots]
noncomputable def kinds1 (n : Nat) : List Int := List.replicate (n / 3) 52 ++ List.replicate (n % 3) 23
theorem kinds1_3 (n : Nat) : kinds1 (n + 3) = 52 :: kinds1 n := by
  unfold kinds1
  rw [show (n + 3) / 3 = n / 3 + 1 by omega, show (n + 3) % 3 = n % 3 by omega, List.replicate_succ]; rfl
noncomputable def kindsOf (rows : List Nat) : List Int := rows.flatMap kinds1
theorem slice_lo : ∀ n < 64, Txt.slice (dots (n + 3)) none (some 3) = dots 3 := by decide +kernel
theorem slice_hi : ∀ n < 64, Txt.slice (dots (n + 3)) (some 3) none = dots n := by decide +kernel
theorem dots_0 : dots 0 = "" := by decide +kernel
theorem dots_1 : dots 1 = "." := by decide +kernel
theorem dots_2 : dots 2 = ".." := by decide +kernel
theorem dots_3 : dots 3 = "..." := by decide +kernel
noncomputable abbrev frOf (st : List Str) (u m : Str → Option Value) : Str → Option Value := fun y => if st.contains y = true then u y else m y
theorem forget {m m' : Str → Option Value} (st : List Str) (h : ∀ y, st.contains y = false → m' y = m y) : m' = frOf st m' m := by
  funext y
  show m' y = if st.contains y = true then m' y else m y
  cases e : st.contains y with
  | true => rw [if_pos rfl]
  | false => rw [if_neg (by decide)]; exact h y e
theorem led_name {h₀ h : Heap} {L l : Addr} {o : Obj} {news : List (Addr × Obj)} (_ : News h₀ L h ((l, o) :: news)) : ∃ l', l' = l := ⟨l, rfl⟩
theorem strsAre_values : ∀ (sl : List (Str × Tok)) (i : Nat) (v : Value), (strValues sl)[i]? = some v → ∃ x t, v = .str x t ∧ (sl.map (·.1))[i]? = some x := by
  intro sl i v h
  unfold strValues at h
  rw [List.getElem?_map] at h
  obtain ⟨p, hp, rfl⟩ := Option.map_eq_some_iff.mp h
  exact ⟨p.1, p.2, rfl, by rw [List.getElem?_map, hp]; rfl⟩
end Mine
end

section
open PySem PySem.W PyProof.Rows PySem.Calls PySem.Spec
open Sem (wp)
open MeetsSeq
set_option Elab.async false
set_option maxRecDepth 100000
namespace Mine
section
variable {prog : Program} {w : World} {A : Around} {E : Value → Shared → Prop} {s : Shared} {env : Env} {h₀ : Heap} {Q : Flow → Shared → Prop} {m : Str → Option Value} {news : List (Addr × Obj)}
noncomputable def TurnZ (h₀ : Heap) (L I : Addr) (o : Obj) (os : OsState) (st : List Str) (m : Str → Option Value) (J : List (Addr × Obj) → Prop) (Q : Flow → Shared → Prop) (f : Flow) (s' : Shared) : Prop :=
  match f with
  | .ret v => Q (.ret v) s'
  | .brk => Q .next s'
  | _ => ∃ m' news', Fr h₀ L s'.heap m' ∧ News h₀ L s'.heap ((I, o) :: news') ∧ (∀ p ∈ news', p.1 ≠ I) ∧ AllBare s'.gens ∧ s'.os = os ∧ (∀ y, st.contains y = false → m' y = m y) ∧ J news'
theorem TurnZ.next {L I : Addr} {o : Obj} {os : OsState} {st : List Str} {m m' : Str → Option Value} {J : List (Addr × Obj) → Prop} {s' : Shared} {all : List (Addr × Obj)} (news' : List (Addr × Obj)) (F : Fr h₀ L s'.heap m') (N : News h₀ L s'.heap all)
    (hs : ∀ p ∈ (I, o) :: news', p ∈ all) (ho : ∀ p ∈ news', p.1 ≠ I) (G : AllBare s'.gens) (e : s'.os = os) (hm : ∀ y, st.contains y = false → m' y = m y) (j : J news') : TurnZ h₀ L I o os st m J Q .next s' :=
  ⟨m', news', F, fun p hp => N p (hs p hp), ho, G, e, hm, j⟩
theorem frOf_turn {x : Str} {v : Option Value} {u : Str → Option Value} (st : List Str) (hx : st.contains x = true) : (fun y => if y = x then v else frOf st u m y) = frOf st (fun y => if y = x then v else u y) m := by
  funext y
  show (if y = x then v else if st.contains y = true then u y else m y) = if st.contains y = true then (if y = x then v else u y) else m y
  by_cases h : y = x
  · subst h; rw [if_pos rfl, if_pos hx, if_pos rfl]
  · rw [if_neg h, if_neg h]
theorem turnZ_post {L I : Addr} {o : Obj} {os : OsState} {st : List Str} {J : List (Addr × Obj) → Prop} {f : Flow} {s' : Shared} (h : TurnZ h₀ L I o os st m J Q f s') : ZPost h₀ L I (fun o' => o' = o) os (fun m' nx => (∃ u, m' = frOf st u m) ∧ J nx) Q f s' := by
  cases f with
  | ret v => exact h
  | brk => exact h
  | cont => obtain ⟨m', news', F, N, ho, G, e, hm, j⟩ := h; exact ⟨m', news', o, F, N, rfl, ho, G, e, ⟨m', forget st hm⟩, j⟩
  | next => obtain ⟨m', news', F, N, ho, G, e, hm, j⟩ := h; exact ⟨m', news', o, F, N, rfl, ho, G, e, ⟨m', forget st hm⟩, j⟩
theorem forZ_list {l : Addr} {items : Array Value} {x : Str} {px : Pos} {body : List Stmt} (st : List Str) (J : Nat → List (Addr × Obj) → Prop)
    (hl : s.heap.IsList l items) (hh : A.handled = none) (hst : st.contains x = true)
    (hx : env.kindOf x = some .local) (hp : (env.scope.kind == .class || (env.scope.kind == .module && env.locals != env.globals)) = false)
    (F : Fr h₀ env.locals s.heap m) (N : News h₀ env.locals s.heap news) (G : AllBare s.gens) (hj : J 0 news)
    (hneed : ∀ i m₁ news₁ h, J i news₁ → Fr h₀ env.locals h m₁ → News h₀ env.locals h news₁ → SeqAt h l items)
    (turn : ∀ I i v u news₁ o s₁, (∀ p ∈ news, p.1 < I) → items[i]? = some v → J i news₁ → (∀ p ∈ news₁, p.1 ≠ I) → Fr h₀ env.locals s₁.heap (fun y => if y = x then some v else frOf st u m y) → News h₀ env.locals s₁.heap ((I, o) :: news₁) → AllBare s₁.gens → s₁.os = s.os →
      wpAny (model prog w) A (execs body env) (TurnZ h₀ env.locals I o s.os st m (J (i + 1)) Q) E s₁)
    (done : ∀ u news₁ s₁, J items.size news₁ → Fr h₀ env.locals s₁.heap (frOf st u m) → News h₀ env.locals s₁.heap news₁ → AllBare s₁.gens → s₁.os = s.os → Q .next s₁) :
    wpAny (model prog w) A (pyIter (.ref l)) (fun it s₂ => LoopZ prog w A env (.Name x px) body [] Q E it s₂) E s := by
  refine iterZ_list (fun i m' nx => (∃ u, m' = frOf st u m) ∧ J i nx) hl hh hx hp F N G ⟨⟨m, forget st fun _ _ => rfl⟩, hj⟩ (fun i m₁ n₁ h a b c => hneed i m₁ n₁ h a.2 b c) ?_ ?_
  · rintro I i v m₁ news₁ o s₁ a b ⟨⟨u, rfl⟩, j⟩ c d e f g
    exact wpAny_mono (turn I i v u news₁ o s₁ a b j c d e f g) (fun _ _ h => turnZ_post h) fun _ _ z => z
  · rintro m₁ news₁ s₁ ⟨⟨u, rfl⟩, j⟩ a b c d
    exact done u news₁ s₁ j a b c d
theorem forZ_range {r : Addr} {a b : Int} {t u v : Tok} {x : Str} {px : Pos} {body : List Stmt} {n : Nat} (st : List Str) (J : Nat → List (Addr × Obj) → Prop)
    (hr : IsRange s.heap r a b 1 t u v) (hsmall : Builtin.Range.small a b 1 = true) (hn : Builtin.Range.rangeSize a b 1 = (n : Int)) (hh : A.handled = none) (hst : st.contains x = true)
    (hx : env.kindOf x = some .local) (hp : (env.scope.kind == .class || (env.scope.kind == .module && env.locals != env.globals)) = false)
    (F : Fr h₀ env.locals s.heap m) (N : News h₀ env.locals s.heap news) (G : AllBare s.gens) (hj : J 0 news)
    (turn : ∀ I i t u news₁ o s₁, (∀ p ∈ news, p.1 < I) → i < n → J i news₁ → (∀ p ∈ news₁, p.1 ≠ I) → Fr h₀ env.locals s₁.heap (fun y => if y = x then some (.int (a + i) t) else frOf st u m y) → News h₀ env.locals s₁.heap ((I, o) :: news₁) → AllBare s₁.gens → s₁.os = s.os →
      wpAny (model prog w) A (execs body env) (TurnZ h₀ env.locals I o s.os st m (J (i + 1)) Q) E s₁)
    (done : ∀ u news₁ s₁, J n news₁ → Fr h₀ env.locals s₁.heap (frOf st u m) → News h₀ env.locals s₁.heap news₁ → AllBare s₁.gens → s₁.os = s.os → Q .next s₁) :
    wpAny (model prog w) A (pyIter (.ref r)) (fun it s₂ => LoopZ prog w A env (.Name x px) body [] Q E it s₂) E s := by
  refine iterZ_range (fun i m' nx => (∃ u, m' = frOf st u m) ∧ J i nx) hr hsmall hn hh hx hp F N G ⟨⟨m, forget st fun _ _ => rfl⟩, hj⟩ ?_ ?_
  · rintro I i t m₁ news₁ o s₁ a b ⟨⟨u, rfl⟩, j⟩ c d e f g
    exact wpAny_mono (turn I i t u news₁ o s₁ a b j c d e f g) (fun _ _ h => turnZ_post h) fun _ _ z => z
  · rintro m₁ news₁ s₁ ⟨⟨u, rfl⟩, j⟩ a b c d
    exact done u news₁ s₁ j a b c d
noncomputable def WTurn (h₀ : Heap) (L : Addr) (s : Shared) (r : Str) (st : List Str) (m : Str → Option Value) (J : Nat → Value → List (Addr × Obj) → Prop) (n : Nat) (f : Flow) (s₃ : Shared) : Prop :=
  f = .next ∧ ∃ h' tk m' news' n' v', s₃ = { s with heap := h', toks := tk } ∧ Fr h₀ L h' m' ∧ News h₀ L h' news' ∧ n' < n ∧ J n' v' news' ∧ m' r = some v' ∧ ∀ y, (y == r || st.contains y) = false → m' y = m y
theorem WTurn.next {L : Addr} {r : Str} {st : List Str} {J : Nat → Value → List (Addr × Obj) → Prop} {n n' : Nat} {v' : Value} {h' : Heap} {tk : Tok} {m' : Str → Option Value} {all : List (Addr × Obj)} (news' : List (Addr × Obj)) (F : Fr h₀ L h' m') (N : News h₀ L h' all)
    (hs : ∀ p ∈ news', p ∈ all) (hn : n' < n) (hr : m' r = some v') (hm : ∀ y, (y == r || st.contains y) = false → m' y = m y) (j : J n' v' news') : WTurn h₀ L s r st m J n .next { s with heap := h', toks := tk } :=
  ⟨rfl, h', tk, m', news', n', v', rfl, F, fun p hp => N p (hs p hp), hn, j, hr, hm⟩
theorem frOf_one {m m' : Str → Option Value} {r : Str} {v : Value} (st : List Str) (hr : m' r = some v) (hm : ∀ y, (y == r || st.contains y) = false → m' y = m y) : m' = fun y => if y = r then some v else frOf st m' m y := by
  funext y
  by_cases h : y = r
  · subst h; rw [if_pos rfl, hr]
  · rw [if_neg h]
    show m' y = if st.contains y = true then m' y else m y
    cases e : st.contains y with
    | true => rw [if_pos rfl]
    | false => rw [if_neg (by decide)]; exact hm y (by rw [e, Bool.or_false]; exact beq_eq_false_iff_ne.mpr h)
theorem whileZ {L : Addr} {test : Expr} {body : List Stmt} {pos : Pos} {n₀ : Nat} {v₀ : Value} (r : Str) (st : List Str) (J : Nat → Value → List (Addr × Obj) → Prop)
    (F : Fr h₀ L s.heap m) (N : News h₀ L s.heap news) (hr : m r = some v₀) (hJ : J n₀ v₀ news)
    (turn : ∀ n v u news₁ h₁ tk₁, J n v news₁ → Fr h₀ L h₁ (fun y => if y = r then some v else frOf st u m y) → News h₀ L h₁ news₁ →
      wpAny (model prog w) A (isTrue test env (eval test env)) (fun b s₂ =>
        if b = true then wpAny (model prog w) A (execs body env) (WTurn h₀ L s r st m J n) E s₂ else Q .next s₂) E { s with heap := h₁, toks := tk₁ })
    (hE : PassesOwn (model prog w) A env E := by passes_own) :
    wpAny (model prog w) A (exec (.While test body [] pos) env) Q E s := by
  refine While_inv (h₀ := h₀) (L := L) (n₀ := n₀) (fun n m₁ nx => ∃ v u, m₁ = (fun y => if y = r then some v else frOf st u m y) ∧ J n v nx) F N ⟨v₀, m, frOf_one st hr fun _ _ => rfl, hJ⟩ ?_ hE
  rintro n m₁ nx h₁ tk₁ F₁ N₁ ⟨v, u, rfl, j⟩
  refine wpAny_mono (turn n v u nx h₁ tk₁ j F₁ N₁) (fun b s₂ h₂ => ?_) fun _ _ z => z
  cases b with
  | false => exact h₂
  | true =>
    refine wpAny_mono h₂ (fun f s₃ h₃ => ?_) fun _ _ z => z
    obtain ⟨rfl, h', tk, m', news', n', v', rfl, F', N', hn, j', hr', hm'⟩ := h₃
    exact ⟨rfl, h', tk, m', news', n', rfl, F', N', hn, v', m', frOf_one st hr' hm', j'⟩
end
noncomputable def HoldZ (P : Prop) : Prop := P
theorem hold {P : Prop} (h : HoldZ P) : P := h
theorem nin {y a : Str} {st : List Str} (h : st.contains y = false) (ha : st.contains a = true) : y ≠ a := fun e => by rw [e, ha] at h; cases h
theorem kindsOf_succ {rows : List Nat} {i n : Nat} (h : rows[i]? = some n) : kindsOf (rows.take (i + 1)) = kindsOf (rows.take i) ++ kinds1 n := by
  unfold kindsOf
  rw [List.take_add_one, h, List.flatMap_append]
  simp
theorem ints_snoc : ∀ {vs : List Value} {ns : List Int} {k : Int} {t : Tok}, IntsAre vs ns → IntsAre (vs ++ [.int k t]) (ns ++ [k])
  | _, _, _, _, .nil => .cons _ _ .nil
  | _, _, _, _, .cons x t h => .cons x t (ints_snoc h)
theorem cont_sub {y : Str} {st st' : List Str} (h : st.contains y = false) (hs : ∀ a ∈ st', st.contains a = true) : st'.contains y = false := by
  cases q : st'.contains y with
  | false => rfl
  | true => rw [hs y (List.contains_iff_mem.mp q)] at h; cases h
end Mine
end

section
open PySem PySem.W PyProof.Rows PySem.Calls PySem.Spec
open Sem (wp)
open MeetsSeq
set_option Elab.async false
set_option maxRecDepth 100000
namespace Mine
section
variable {prog : Program} {w : World} {A : Around} {E : Value → Shared → Prop} {s : Shared} {h₀ : Heap} {L : Addr} {m : Str → Option Value} {news : List (Addr × Obj)} {Q : Value → Shared → Prop} {value slice : Expr} {n : Nat} {t : Tok}
theorem dots_lo {j : Int} {uj : Tok} (hn : n < 64) (hj : j = 3) (F : Fr h₀ L s.heap m) (N : News h₀ L s.heap news) (h : ∀ h' t' k, Fr h₀ L h' m → News h₀ L h' news → Q (.str "..." t') { s with heap := h', toks := k })
    (hs : subscripted slice false (.str (dots (n + 3)) t) (.ref s.heap.objs.size) = operate [.ref s.heap.objs.size, .str (dots (n + 3)) t] (getItem (.str (dots (n + 3)) t) (.ref s.heap.objs.size)))
    (ht : ∀ r, letTemporaryGo value (.str (dots (n + 3)) t) r = pure ()) :
    wpAny (model prog w) A (subscriptTail value slice (.str (dots (n + 3)) t) (.ref s.heap.objs.size)) Q E { s with heap := s.heap.push { cls := .type "slice", data := .fields #[.none, .int j uj, .none] } } := by
  subst hj
  refine slice_strN_ns F N (fun h' t' k a b => ?_) hs ht (by rw [dots_len, sizeLine_eq]; omega)
  rw [slice_lo n hn, dots_3]
  exact h h' t' k a b
theorem dots_hi {j : Int} {uj : Tok} (hn : n < 64) (hj : j = 3) (F : Fr h₀ L s.heap m) (N : News h₀ L s.heap news) (h : ∀ h' t' k, Fr h₀ L h' m → News h₀ L h' news → Q (.str (dots n) t') { s with heap := h', toks := k })
    (hs : subscripted slice false (.str (dots (n + 3)) t) (.ref s.heap.objs.size) = operate [.ref s.heap.objs.size, .str (dots (n + 3)) t] (getItem (.str (dots (n + 3)) t) (.ref s.heap.objs.size)))
    (ht : ∀ r, letTemporaryGo value (.str (dots (n + 3)) t) r = pure ()) :
    wpAny (model prog w) A (subscriptTail value slice (.str (dots (n + 3)) t) (.ref s.heap.objs.size)) Q E { s with heap := s.heap.push { cls := .type "slice", data := .fields #[.int j uj, .none, .none] } } := by
  subst hj
  refine slice_strN_sn F N (fun h' t' k a b => ?_) hs ht (by rw [dots_len, sizeLine_eq]; omega)
  rw [slice_hi n hn]
  exact h h' t' k a b
theorem dots_true {Q : Bool → Shared → Prop} (hn : n < 64) (h : ∀ k, Q true { s with toks := k }) : wpAny (model prog w) A (truthy (.str (dots (n + 3)) t)) Q E s :=
  KXt.truthy (b := true) (by rw [dots_len]; exact bne_iff_ne.mpr (by omega)) (by rw [dots_len]; omega) h
end
end Mine
end

section
open PySem PySem.W PyProof.Rows PySem.Calls PySem.Spec
open Sem (wp)
open MeetsSeq
set_option Elab.async false
set_option maxRecDepth 100000
namespace Mine
section
variable {prog : Program} {w : World} {A : Around} {E : Value → Shared → Prop} {s : Shared} {env : Env} {h₀ : Heap} {Q : Flow → Shared → Prop} {m : Str → Option Value} {news : List (Addr × Obj)}
noncomputable def GTurn (h₀ : Heap) (L : Addr) (os : OsState) (r : Str) (st : List Str) (m : Str → Option Value) (J : Nat → Value → List (Addr × Obj) → Prop) (n : Nat) (f : Flow) (s₃ : Shared) : Prop :=
  f = .next ∧ ∃ m' news' n' v', Fr h₀ L s₃.heap m' ∧ News h₀ L s₃.heap news' ∧ n' < n ∧ J n' v' news' ∧ m' r = some v' ∧ (∀ y, (y == r || st.contains y) = false → m' y = m y) ∧ AllBare s₃.gens ∧ s₃.os = os
theorem GTurn.next {L : Addr} {os : OsState} {r : Str} {st : List Str} {J : Nat → Value → List (Addr × Obj) → Prop} {n n' : Nat} {v' : Value} {s₃ : Shared} {m' : Str → Option Value} {all : List (Addr × Obj)} (news' : List (Addr × Obj)) (F : Fr h₀ L s₃.heap m') (N : News h₀ L s₃.heap all)
    (hs : ∀ p ∈ news', p ∈ all) (hn : n' < n) (hr : m' r = some v') (hm : ∀ y, (y == r || st.contains y) = false → m' y = m y) (G : AllBare s₃.gens) (ho : s₃.os = os) (j : J n' v' news') : GTurn h₀ L os r st m J n .next s₃ :=
  ⟨rfl, m', news', n', v', F, fun p hp => N p (hs p hp), hn, j, hr, hm, G, ho⟩
theorem whileG {L : Addr} {test : Expr} {body : List Stmt} {pos : Pos} {n₀ : Nat} {v₀ : Value} (r : Str) (st : List Str) (J : Nat → Value → List (Addr × Obj) → Prop)
    (F : Fr h₀ L s.heap m) (N : News h₀ L s.heap news) (hr : m r = some v₀) (G : AllBare s.gens) (hJ : J n₀ v₀ news)
    (turn : ∀ n v u news₁ s₁, J n v news₁ → Fr h₀ L s₁.heap (fun y => if y = r then some v else frOf st u m y) → News h₀ L s₁.heap news₁ → AllBare s₁.gens → s₁.os = s.os →
      wpAny (model prog w) A (isTrue test env (eval test env)) (fun b s₂ =>
        if b = true then wpAny (model prog w) A (execs body env) (GTurn h₀ L s.os r st m J n) E s₂ else Q .next s₂) E s₁)
    (hE : PassesOwn (model prog w) A env E := by passes_own) :
    wpAny (model prog w) A (exec (.While test body [] pos) env) Q E s := by
  refine wpAny_While (codeAny_whileLoop (fun n s' => ∃ m₁ nx v u, Fr h₀ L s'.heap m₁ ∧ News h₀ L s'.heap nx ∧ m₁ = (fun y => if y = r then some v else frOf st u m y) ∧ J n v nx ∧ AllBare s'.gens ∧ s'.os = s.os) ?_ n₀ ⟨m, news, v₀, m, F, N, frOf_one st hr fun _ _ => rfl, hJ, G, rfl⟩)
  rintro n s' ⟨m₁, nx, v, u, F₁, N₁, rfl, j, G₁, ho₁⟩
  refine wpAny_mono (turn n v u nx s' j F₁ N₁ G₁ ho₁) (fun b s₂ h₂ => ?_) hE
  cases b with
  | false =>
    simp only [Bool.false_eq_true, if_false] at h₂ ⊢
    exact wpAny_execs_nil h₂
  | true =>
    simp only [if_true] at h₂ ⊢
    refine wpAny_mono h₂ (fun f s₃ h₃ => ?_) hE
    obtain ⟨rfl, m', news', n', v', F', N', hn, j', hr', hm', G', ho'⟩ := h₃
    exact ⟨n', hn, m', news', v', m', F', N', frOf_one st hr' hm', j', G', ho'⟩
noncomputable def TurnR (h₀ : Heap) (L I : Addr) (o : Obj) (os : OsState) (r : Str) (st : List Str) (m : Str → Option Value) (J : Value → List (Addr × Obj) → Prop) (Q : Flow → Shared → Prop) (f : Flow) (s' : Shared) : Prop :=
  match f with
  | .ret v => Q (.ret v) s'
  | .brk => Q .next s'
  | _ => ∃ m' news' v', Fr h₀ L s'.heap m' ∧ News h₀ L s'.heap ((I, o) :: news') ∧ (∀ p ∈ news', p.1 ≠ I) ∧ AllBare s'.gens ∧ s'.os = os ∧ m' r = some v' ∧ (∀ y, (y == r || st.contains y) = false → m' y = m y) ∧ J v' news'
theorem TurnR.next {L I : Addr} {o : Obj} {os : OsState} {r : Str} {st : List Str} {m m' : Str → Option Value} {v' : Value} {J : Value → List (Addr × Obj) → Prop} {s' : Shared} {all : List (Addr × Obj)} (news' : List (Addr × Obj)) (F : Fr h₀ L s'.heap m') (N : News h₀ L s'.heap all)
    (hs : ∀ p ∈ (I, o) :: news', p ∈ all) (ho : ∀ p ∈ news', p.1 ≠ I) (G : AllBare s'.gens) (e : s'.os = os) (hr : m' r = some v') (hm : ∀ y, (y == r || st.contains y) = false → m' y = m y) (j : J v' news') : TurnR h₀ L I o os r st m J Q .next s' :=
  ⟨m', news', v', F, fun p hp => N p (hs p hp), ho, G, e, hr, hm, j⟩
theorem turnR_post {L I : Addr} {o : Obj} {os : OsState} {r : Str} {st : List Str} {J : Value → List (Addr × Obj) → Prop} {f : Flow} {s' : Shared} (h : TurnR h₀ L I o os r st m J Q f s') : ZPost h₀ L I (fun o' => o' = o) os (fun m' nx => ∃ v u, m' = (fun y => if y = r then some v else frOf st u m y) ∧ J v nx) Q f s' := by
  cases f with
  | ret v => exact h
  | brk => exact h
  | cont => obtain ⟨m', news', v', F, N, ho, G, e, hr, hm, j⟩ := h; exact ⟨m', news', o, F, N, rfl, ho, G, e, v', m', frOf_one st hr hm, j⟩
  | next => obtain ⟨m', news', v', F, N, ho, G, e, hr, hm, j⟩ := h; exact ⟨m', news', o, F, N, rfl, ho, G, e, v', m', frOf_one st hr hm, j⟩
theorem forR_list {l : Addr} {items : Array Value} {x : Str} {px : Pos} {body : List Stmt} {v₀ : Value} (r : Str) (st : List Str) (J : Nat → Value → List (Addr × Obj) → Prop)
    (hl : s.heap.IsList l items) (hh : A.handled = none) (hr : m r = some v₀)
    (hx : env.kindOf x = some .local) (hp : (env.scope.kind == .class || (env.scope.kind == .module && env.locals != env.globals)) = false)
    (F : Fr h₀ env.locals s.heap m) (N : News h₀ env.locals s.heap news) (G : AllBare s.gens) (hj : J 0 v₀ news)
    (hneed : ∀ i v m₁ news₁ h, J i v news₁ → Fr h₀ env.locals h m₁ → News h₀ env.locals h news₁ → SeqAt h l items)
    (turn : ∀ I i v vr u news₁ o s₁, (∀ p ∈ news, p.1 < I) → items[i]? = some v → J i vr news₁ → (∀ p ∈ news₁, p.1 ≠ I) → Fr h₀ env.locals s₁.heap (fun y => if y = x then some v else if y = r then some vr else frOf st u m y) → News h₀ env.locals s₁.heap ((I, o) :: news₁) → AllBare s₁.gens → s₁.os = s.os →
      wpAny (model prog w) A (execs body env) (TurnR h₀ env.locals I o s.os r st m (J (i + 1)) Q) E s₁)
    (done : ∀ vr u news₁ s₁, J items.size vr news₁ → Fr h₀ env.locals s₁.heap (fun y => if y = r then some vr else frOf st u m y) → News h₀ env.locals s₁.heap news₁ → AllBare s₁.gens → s₁.os = s.os → Q .next s₁) :
    wpAny (model prog w) A (pyIter (.ref l)) (fun it s₂ => LoopZ prog w A env (.Name x px) body [] Q E it s₂) E s := by
  refine iterZ_list (fun i m' nx => ∃ v u, m' = (fun y => if y = r then some v else frOf st u m y) ∧ J i v nx) hl hh hx hp F N G ⟨v₀, m, frOf_one st hr fun _ _ => rfl, hj⟩ (fun i m₁ n₁ h ⟨v, _, _, j⟩ b c => hneed i v m₁ n₁ h j b c) ?_ ?_
  · rintro I i v m₁ news₁ o s₁ a b ⟨vr, u, rfl, j⟩ c d e f g
    exact wpAny_mono (turn I i v vr u news₁ o s₁ a b j c d e f g) (fun _ _ h => turnR_post h) fun _ _ z => z
  · rintro m₁ news₁ s₁ ⟨vr, u, rfl, j⟩ a b c d
    exact done vr u news₁ s₁ j a b c d
end
end Mine
end

section
open PySem PySem.W PyProof.Rows PySem.Calls PySem.Spec
open Sem (wp)
open MeetsSeq
set_option Elab.async false
set_option maxRecDepth 100000
namespace Mine
section
variable {prog : Program} {w : World} {A : Around} {E : Value → Shared → Prop} {s : Shared} {Q : Value → Shared → Prop} {k : Nat} {t u : Tok}
theorem mul_dots (hk : k < 64) (h : ∀ t' tk, Q (.str (dots k) t') { s with toks := tk }) : wpAny (model prog w) A (binaryOp .Mult (.str "." t) (.int (k : Nat) u)) Q E s :=
  SB.mul (mulOk_of 16 1048576 (by decide) (by omega) (by omega) (by decide) (by decide)) fun t' k' => by rw [dots_mul]; exact h t' k'
end
theorem split_dots : ∀ k < 64, Txt.split (dots k) "\r\n" = [k].map dots := by decide +kernel
theorem splitOk_dots : ∀ k < 64, splitOk (dots k) "\r\n" = true := by decide +kernel
theorem count23 : ∀ k < 64, (kindsOf [k]).count 23 = k % 3 := by decide +kernel
theorem count52 : ∀ k < 64, (kindsOf [k]).count 52 = k / 3 := by decide +kernel
theorem led_tail {h₀ h : Heap} {L : Addr} {p : Addr × Obj} {news : List (Addr × Obj)} (N : News h₀ L h (p :: news)) : News h₀ L h news := fun q hq => N q (.tail _ hq)
end Mine
end

section
open PySem PySem.W PyProof.Rows PySem.Calls PySem.Spec
open Sem (wp)
open MeetsSeq
set_option Elab.async false
set_option maxRecDepth 100000
namespace Mine
section
variable {prog : Program} {w : World} {A A₀ : Around} {E : Value → Shared → Prop} {s : Shared} {K : Frag} {C L : Addr} {h₀ base : Heap} {m mg mb : Str → Option Value} {news : List (Addr × Obj)} {p : Program} {loose : List Str} {Q : Value → Shared → Prop}
theorem code_defCR {env : Env} {outer : List Env} {R : Result → Shared → Prop} {name qual : Str} {params : Arguments} {body : List Stmt} {scope : Scope} {dV kV doc pm cdv ct oc : Value} {an od : Option Addr} {osl : Array (Option Value)} {f : Addr} {args : Args} {binds : List (Str × Value)}
    (B : Below A₀ base outer h₀) (F : Fr h₀ L s.heap m) (X₀ : K.In h₀) (N : News h₀ L s.heap news) (T : TopRead p loose mg mb h₀) (BM : BMain mg h₀) (hA : A.frames = some (env :: outer)) (hf : env.frame = some L) (hke : env.scope.kind = .function)
    (ho : K.lookup f = some ⟨oc, od, .func (fnOf name qual params body scope dV kV doc pm an cdv ct), osl⟩) (hcd : codeIn K cdv qual = true) (hroom : A.depth < recursionLimit)
    (hbind : BindsTo s (fnOf name qual params body scope dV kV doc pm an cdv ct) args binds) (hkind : (binds.all fun y => scope.names.lookup y.1 == some .local || scope.names.lookup y.1 == some .cell) = true)
    (hnd : ((cellsFrom 0 scope.names []).map (·.1)).Nodup)
    (h : ∀ g L' h₁ tk cells, Fr h₀ L g m → Fr g L' h₁ (bindL (envOfC qual scope L' f cdv).kindOf binds fun _ => none) → News g L' h₁ (cells ++ news) →
      CellsAre (bindC (envOfC qual scope L' f cdv).kindOf binds fun _ => none) (cellsFrom (L' + 1) scope.names []) cells → Below A base (env :: outer) g → K.In g → TopRead p loose mg mb g → BMain mg g → (∀ p ∈ news, p.1 < L') →
      wpAny (model prog w) (A.deeper (envOfC qual scope L' f cdv)) (execs body (envOfC qual scope L' f cdv))
        (fun fl s' => LeaveK h₀ L m g R (match fl with | .ret v => v | _ => .none) s')
        (fun e s' => wpAny (model prog w) (A.deeper (envOfC qual scope L' f cdv)) (leaving (envOfC qual scope L' f cdv) e) (fun _ s'' => R (.error e) s'') (fun e' s'' => R (.error e') s'') s')
        { s with heap := h₁, toks := tk })
    (hco : scope.isCoroutine = false) (hgen : scope.isGenerator = false) (hk : scope.kind = .function) : codeAny (model prog w) A (.call (.ref f) args) R s :=
  callX_cells B F N T.nolimit hA hf hke ((X₀.keeps F.keep) _ _ ho) rfl (codeRec_of (X₀.keeps F.keep) hcd) hroom hbind (kindsX hkind) hnd (fun g L' h₁ tk cells FG F' N' Y B' st l => h g L' h₁ tk cells FG F' N' Y B' (X₀.keeps st) (T.keeps st) (BM.keeps st) l) hco hgen hk
end
end Mine
end

section
open PySem PySem.W PyProof.Rows PySem.Calls PySem.Spec
open Sem (wp)
open MeetsSeq
set_option Elab.async false
set_option maxRecDepth 100000
namespace Mine
theorem fr_name {h₀ h : Heap} {L : Addr} {m : Str → Option Value} (_ : Fr h₀ L h m) : ∃ L', L' = L := ⟨L, rfl⟩
section
variable {prog : Program} {w : World} {A : Around} {E : Value → Shared → Prop} {s : Shared} {env : Env} {h₀ : Heap} {Q : Flow → Shared → Prop} {m : Str → Option Value} {news : List (Addr × Obj)}
theorem forT_range {r : Addr} {a b : Int} {t u v : Tok} {target : Expr} {body : List Stmt} {n : Nat} (st : List Str) (J : Nat → List (Addr × Obj) → Prop)
    (hr : IsRange s.heap r a b 1 t u v) (hsmall : Builtin.Range.small a b 1 = true) (hn : Builtin.Range.rangeSize a b 1 = (n : Int)) (hh : A.handled = none)
    (htg : ∀ it v, letOwnedTupleGo target it v = pure ())
    (F : Fr h₀ env.locals s.heap m) (N : News h₀ env.locals s.heap news) (G : AllBare s.gens) (hj : J 0 news)
    (turn : ∀ I i t u news₁ o s₁, (∀ p ∈ news, p.1 < I) → i < n → J i news₁ → (∀ p ∈ news₁, p.1 ≠ I) → Fr h₀ env.locals s₁.heap (frOf st u m) → News h₀ env.locals s₁.heap ((I, o) :: news₁) → AllBare s₁.gens → s₁.os = s.os →
      wpAny (model prog w) A (assign target env (.int (a + i) t)) (fun _ s₂ => wpAny (model prog w) A (execs body env) (TurnZ h₀ env.locals I o s.os st m (J (i + 1)) Q) E s₂) E s₁)
    (done : ∀ u news₁ s₁, J n news₁ → Fr h₀ env.locals s₁.heap (frOf st u m) → News h₀ env.locals s₁.heap news₁ → AllBare s₁.gens → s₁.os = s.os → Q .next s₁) :
    wpAny (model prog w) A (pyIter (.ref r)) (fun it s₂ => LoopZ prog w A env target body [] Q E it s₂) E s := by
  refine wpAny_pyIter_range hr hsmall ?_
  have hlt : ∀ p ∈ news, p.1 < s.heap.objs.size := fun p hp => Heap.lt_size (N p hp).1
  have N' := N.push F { cls := .type "range_iterator", data := .fields #[rawInt a, rawInt (Builtin.Range.rangeSize a b 1), rawInt 1] }
  have F' := F.push { cls := .type "range_iterator", data := .fields #[rawInt a, rawInt (Builtin.Range.rangeSize a b 1), rawInt 1] }
  generalize hI : s.heap.objs.size = I at *
  have St := stepper_range (prog := prog) (w := w) (A := A) (I := I) hh (a := a) (n := n)
  have hIL := (N' _ (.head _)).2.1
  have hI0 := (N' _ (.head _)).2.2
  refine ⟨fun k s' => ∃ i m' u news' o', Fr h₀ env.locals s'.heap m' ∧ m' = frOf st u m ∧ News h₀ env.locals s'.heap ((I, o') :: news') ∧ o' = { cls := .type "range_iterator", data := .fields #[rawInt (a + (i : Nat)), rawInt ((n : Int) - (i : Nat)), rawInt 1] } ∧ (∀ p ∈ news', p.1 ≠ I) ∧ AllBare s'.gens ∧ s'.os = s.os ∧ J i news' ∧ i ≤ n ∧ k = n + 1 - i, n + 1,
    ⟨0, m, m, news, _, F', forget st fun _ _ => rfl, N', by rw [hn]; simp, fun p hp => Nat.ne_of_lt (hlt p hp), G, rfl, hj, Nat.zero_le _, rfl⟩, htg _, ?_⟩
  rintro k s' ⟨i, m', u', news', o', F₀, rfl, N₀, ho', hoff', G', hos', hj', hi, rfl⟩
  have next : ∀ h₁ : Heap, Heap.ExtBut I s'.heap h₁ → Fr h₀ env.locals h₁ (frOf st u' m) ∧ News h₀ env.locals h₁ news' := fun h₁ hk₁ =>
    ⟨⟨F₀.ns.at' fun o e => hk₁ _ o (Ne.symm hIL) e, fun b o e => hk₁ b o (fun q => by rw [q, hI0] at e; cases e) (F₀.keep b o e), F₀.above⟩,
     fun p hp => ⟨hk₁ _ _ (hoff' p hp) (N₀ p (.tail _ hp)).1, (N₀ p (.tail _ hp)).2⟩⟩
  by_cases hlt' : i < n
  · refine St.item i s' _ _ o' hlt' (N₀ _ (.head _)).1 ho' trivial fun v o₁ h₁ tk₁ hP ho₁ hg₁ hs₁ => ?_
    obtain ⟨tv, rfl⟩ := hP
    obtain ⟨F₁, N₁⟩ := next h₁ hs₁.extBut
    have N₁' : News h₀ env.locals h₁ ((I, o₁) :: news') := fun p hp => by
      rcases List.mem_cons.mp hp with rfl | hp
      · exact ⟨hg₁, hIL, hI0⟩
      · exact N₁ p hp
    refine wpAny_mono (turn I i tv u' news' o₁ _ hlt hlt' hj' hoff' F₁ N₁' G' hos') (fun _ s₂ h₂ => wpAny_mono h₂ (fun f s₃ h₃ => ?_) fun _ _ e => e) fun _ _ e => e
    cases f with
    | ret v => exact h₃
    | brk => exact h₃
    | cont => obtain ⟨m₂, news₂, F₂, N₂, hoff₂, G₂, hos₂, hm₂, hj₂⟩ := h₃; exact ⟨n + 1 - (i + 1), by omega, i + 1, m₂, m₂, news₂, o₁, F₂, forget st hm₂, N₂, ho₁, hoff₂, G₂, hos₂, hj₂, hlt', rfl⟩
    | next => obtain ⟨m₂, news₂, F₂, N₂, hoff₂, G₂, hos₂, hm₂, hj₂⟩ := h₃; exact ⟨n + 1 - (i + 1), by omega, i + 1, m₂, m₂, news₂, o₁, F₂, forget st hm₂, N₂, ho₁, hoff₂, G₂, hos₂, hj₂, hlt', rfl⟩
  · have hin : i = n := by omega
    subst hin
    refine St.done s' _ _ o' (N₀ _ (.head _)).1 ho' trivial fun h₁ he₁ => ?_
    obtain ⟨F₁, N₁⟩ := next h₁ he₁
    exact wpAny_execs_nil (done u' news' _ hj' F₁ N₁ G' hos')
end
end Mine
end

section
open PySem PySem.W PyProof.Rows PySem.Calls PySem.Spec
open Sem (wp)
open MeetsSeq
set_option Elab.async false
set_option maxRecDepth 100000
namespace Mine
section
variable {prog : Program} {w : World} {A : Around} {E : Value → Shared → Prop} {s : Shared} {h₀ : Heap} {m : Str → Option Value} {env : Env} {news : List (Addr × Obj)}
theorem comp_rng {elt ct iter : Expr} {x y : Str} {px py : Pos} {scope : Scope} {cl : List (Str × Addr)} {pos spos : Pos} {Q : Flow → Shared → Prop} {n₀ : Nat} (pz : Int → Bool) (f : Int → Int)
    (_F : Fr h₀ env.locals s.heap m) (_N : News h₀ env.locals s.heap news)
    (hsw : swapsWith (.ListComp elt [⟨.Name x px, iter, [ct], 0⟩] scope pos) (some (.Name y py)) spos.line env = pure true)
    (hh : A.handled = none) (hclos : closureFor scope env = pure cl) (hcell : ∀ z ∈ scope.names, z.2 ≠ .cell) (hkind : scope.kind = .function)
    (hnames : ∀ z ∈ scope.names, z.2 = .local → scope.names.lookup z.1 = some .local) (hx : scope.names.lookup x = some .local)
    (hy : env.kindOf y = some .local) (hp : (env.scope.kind == .class || (env.scope.kind == .module && env.locals != env.globals)) = false) (hn₀ : n₀ ≤ 1000)
    (h : wpAny (model prog w) A (eval iter env) (fun xv s₁ => ∃ r b₀ t₀ u₀ v₀, xv = .ref r ∧ IsRange s₁.heap r 1 b₀ 1 t₀ u₀ v₀ ∧ b₀ = ((n₀ : Nat) : Int) + 1 ∧ Fr h₀ env.locals s₁.heap m ∧ News h₀ env.locals s₁.heap news ∧ s₁.gens = s.gens ∧ s₁.os = s.os) E s)
    (htests : ∀ C (i : Nat) t s₂ m₂ E', i < n₀ → s₂.heap.Ns C m₂ → m₂ x = some (.int (1 + (i : Nat)) t) → (∀ p ∈ news, s₂.heap.get? p.1 = some p.2) →
        wpAny (model prog w) A (isTrue ct (compEnvC scope cl C env) (eval ct (compEnvC scope cl C env))) (fun ok s₃ => ok = pz (1 + (i : Nat)) ∧ Keeps s₂ s₃) E' s₂)
    (helt : ∀ C (i : Nat) t s₂ m₂ E', i < n₀ → s₂.heap.Ns C m₂ → m₂ x = some (.int (1 + (i : Nat)) t) → (∀ p ∈ news, s₂.heap.get? p.1 = some p.2) →
        wpAny (model prog w) A (eval elt (compEnvC scope cl C env)) (fun v s₃ => (∃ t', v = .int (f (1 + (i : Nat))) t') ∧ Keeps s₂ s₃) E' s₂)
    (hQ : ∀ D (ys : List Value) c s', Fr h₀ env.locals s'.heap (fun z => if z = y then some (.ref D) else m z) → News h₀ env.locals s'.heap ((D, listOf ys.toArray c) :: news) → (∀ p ∈ news, p.1 ≠ D) → IntsAre ys (((rangeInts 1 1 n₀).filter pz).map f) → s'.gens = s.gens → s'.os = s.os → Q .next s')
    (hs : ∀ x, foldedSetIterable iter env x = pure x) :
    wpAny (model prog w) A (exec (.Assign [.Name y py] (.ListComp elt [⟨.Name x px, iter, [ct], 0⟩] scope pos) spos) env) Q E s := by
  have size : Builtin.Range.rangeSize 1 (((n₀ : Nat) : Int) + 1) 1 = (n₀ : Int) := by
    unfold Builtin.Range.rangeSize
    simp
    omega
  have small : Builtin.Range.small 1 (((n₀ : Nat) : Int) + 1) 1 = true := by
    unfold Builtin.Range.small
    rw [size]
    simp [Builtin.Range.rangeFitsLong]
    omega
  have key : ∀ a ∈ rangeInts 1 1 n₀, ∃ i < n₀, a = 1 + ((i : Nat) : Int) := by
    intro a ha
    obtain ⟨i, hi⟩ := List.mem_iff_getElem?.mp ha
    have hl := (List.getElem?_eq_some_iff.mp hi).1
    rw [rangeInts_length] at hl
    rw [rangeInts_get hl] at hi
    exact ⟨i, hl, by rw [← Option.some.inj hi]; omega⟩
  refine Assign_ListComp_DCr (h₀ := h₀) (m := m) (pz := pz) (d := fun a => .int (f a)) hsw rfl hh hclos hcell hkind hnames hx hy hp (wpAny_mono h (fun xv s₁ h₁ => ?_) fun _ _ e => e) hs
  obtain ⟨r, b₀, t₀, u₀, v₀, rfl, hr, rfl, F₁, N₁, hg, ho⟩ := h₁
  refine ⟨news, r, 1, _, 1, t₀, u₀, v₀, n₀, rfl, hr, small, size, by rw [sizeLine_eq]; omega, F₁, N₁, ?_, ?_, ?_⟩
  · rintro C a v s₂ m₂ E' hC ha hv hn hm hk
    obtain ⟨i, hi, rfl⟩ := key a ha
    obtain ⟨t, rfl⟩ := hv
    rw [List.forIn_cons]
    refine wpAny_bind ?_
    rw [if_pos rfl]
    refine wpAny_bind (wpAny_mono (htests C i t s₂ m₂ E' hi hn hm fun p hp => hk _ _ (N₁ p hp).1) (fun ok s₃ h₃ => wpAny_pure ?_) fun _ _ e => e)
    exact wpAny_pure h₃
  · rintro C a v s₂ m₂ E' hC ha hv hpz hn hm hk
    obtain ⟨i, hi, rfl⟩ := key a ha
    obtain ⟨t, rfl⟩ := hv
    refine wpAny_mono (helt C i t s₂ m₂ E' hi hn hm fun p hp => hk _ _ (N₁ p hp).1) (fun v s₃ h₃ => ?_) fun _ _ e => e
    obtain ⟨⟨t', rfl⟩, hk'⟩ := h₃
    exact ⟨.int _ _, hk'⟩
  · rintro D ys h' tk F' N' hD hl hpl hc
    obtain ⟨c, hc'⟩ := hpl.1
    have hDL : D ≠ env.locals := fun e => by
      obtain ⟨oL, _, _, hL, hd, _⟩ := F'.ns
      rw [← e, hc'] at hL
      cases hL
      simp at hd
    refine hQ D ys c { s₁ with heap := h', toks := tk } F' (fun p hp => ?_) hpl.2 (IntsAre.ofCarried (by rw [List.map_map]; exact hc)) hg ho
    rcases List.mem_cons.mp hp with rfl | hp
    · exact ⟨hc', hDL, hD⟩
    · exact N' p hp
end
end Mine
end

section
open PySem PySem.W PyProof.Rows PySem.Calls PySem.Spec
open Sem (wp)
open MeetsSeq
set_option Elab.async false
set_option maxRecDepth 100000
namespace Mine
theorem ns_not_tab {h : Heap} {a t : Addr} {m : Str → Option Value} {ps : Array Value} (hn : h.Ns a m) (ht : h.get? t = some (tabO ps)) : a ≠ t := fun e => by
  obtain ⟨o, es, ep, ho, hd, _⟩ := hn
  rw [e, ht] at ho
  rw [← Option.some.inj ho] at hd
  cases hd
theorem hide_two {K : Frag} {h₀ h : Heap} {L : Addr} {m mg mb : Str → Option Value} {p : Program} {loose : List Str} {t1 t2 : Addr} (F : Fr h₀ L h m) (X : K.In h₀) (T : TopRead p loose mg mb h₀) (BM : BMain mg h₀)
    (g1 : h₀.get? t1 = some (tabO #[])) (g2 : h₀.get? t2 = some (tabO #[])) (e1 : (K.lookup t1).isNone = true) (e2 : (K.lookup t2).isNone = true) :
    ∃ g, Fr g L h m ∧ News g L h [(t1, tabO #[]), (t2, tabO #[])] ∧ K.In g ∧ TopRead p loose mg mb g ∧ BMain mg g ∧ Below callerA g [] g ∧ (∀ b o, h₀.get? b = some o → b ≠ t1 → b ≠ t2 → g.get? b = some o) ∧ (∀ b o, g.get? b = some o → h₀.get? b = some o) := by
  have up : ∀ b o, h₀.get? b = some o → b ≠ t1 → b ≠ t2 → (hideAll h₀ [t1, t2]).get? b = some o := fun b o e n1 n2 => hideAll_get _ e fun hm => by
    rcases List.mem_cons.mp hm with q | hm
    · exact n1 q
    · exact n2 (List.mem_singleton.mp hm)
  have nsK : ∀ {a : Addr} {m' : Str → Option Value}, h₀.Ns a m' → (hideAll h₀ [t1, t2]).Ns a m' := fun hn => hn.at' fun o e => up _ o e (ns_not_tab hn g1) (ns_not_tab hn g2)
  have hL1 : t1 ≠ L := (ns_not_tab F.ns (F.keep _ _ g1)).symm
  have hL2 : t2 ≠ L := (ns_not_tab F.ns (F.keep _ _ g2)).symm
  refine ⟨hideAll h₀ [t1, t2], ⟨F.ns, fun b o e => F.keep b o (of_hideAll _ e), by rw [hideAll_size]; exact F.above⟩, ?_, ?_, ⟨nsK T.g, nsK T.b, ?_, T.builtins, T.free⟩, ?_, below_caller _, up, fun b o e => of_hideAll _ e⟩
  · intro q hq
    rcases List.mem_cons.mp hq with rfl | hq
    · exact ⟨F.keep _ _ g1, hL1, hideAll_none _ (by simp)⟩
    · rw [List.mem_singleton.mp hq]
      exact ⟨F.keep _ _ g2, hL2, hideAll_none _ (by simp)⟩
  · intro a o e
    refine up a o (X a o e) (fun q => ?_) (fun q => ?_)
    · rw [q] at e; rw [e] at e1; cases e1
    · rw [q] at e; rw [e] at e2; cases e2
  · obtain ⟨mc, h1, h2⟩ := T.nolimit
    exact ⟨mc, nsK h1, h2⟩
  · obtain ⟨bm, ob, h1, h2, h3, h4, h5, h6⟩ := BM
    refine ⟨bm, ob, h1, h2, up bm ob h3 (fun q => ?_) (fun q => ?_), h4, h5, h6⟩
    · rw [q, g1] at h3; rw [← Option.some.inj h3] at h4; cases h4
    · rw [q, g2] at h3; rw [← Option.some.inj h3] at h4; cases h4
end Mine
end

section
open PySem PySem.W PyProof.Rows PySem.Calls PySem.Spec
open Sem (wp)
open MeetsSeq
set_option Elab.async false
set_option maxRecDepth 100000
namespace Mine
theorem bounds_past (k n : Nat) (hk : n ≤ k) : sliceBounds (some (k : Int)) none none n = ((n : Int), (n : Int), 1) := by
  unfold sliceBounds
  have h0 : ¬ (k : Int) < 0 := by omega
  simp [h0]
  omega
theorem pick_drop (its : List Value) (k : Nat) : slicePick its.toArray (some (k : Int)) none none = (its.drop k).toArray := by
  rcases Nat.le_total k its.length with h | h
  · exact pick_from its k h
  · have e := kmk_pick_nat its.toArray (bounds_past k its.toArray.size (by simpa using h))
    rw [e, List.drop_of_length_le h]
    simp
theorem ints_drop : ∀ {vs : List Value} {ns : List Int}, IntsAre vs ns → ∀ k : Nat, IntsAre (vs.drop k) (ns.drop k) := fun h k => h.drop k
section
variable {prog : Program} {w : World} {A : Around} {E : Value → Shared → Prop} {s : Shared} {h₀ : Heap} {L : Addr} {m : Str → Option Value} {news : List (Addr × Obj)} {Q : Value → Shared → Prop}
theorem list_from {value e : Expr} {p : Pos} {k : Nat} {t : Tok} {l : Addr} {its : List Value} {ns : List Int} {c : Nat} (F : Fr h₀ L s.heap m) (N : News h₀ L s.heap news) (hl : (l, listOf its.toArray c) ∈ news) (hi : IntsAre its ns) (hsz : its.length ≤ 1000)
    (h : ∀ l2 ws h', IntsAre ws (ns.drop k) → Fr h₀ L h' m → News h₀ L h' ((l2, listOf ws.toArray 0) :: news) → (∀ p ∈ news, p.1 < l2) → Q (.ref l2) { s with heap := h' })
    (hs : subscripted (.Slice e none none p) false (.ref l) (.ref s.heap.objs.size) = operate [.ref s.heap.objs.size, .ref l] (getItem (.ref l) (.ref s.heap.objs.size))) :
    wpAny (model prog w) A (subscriptTail value (.Slice e none none p) (.ref l) (.ref s.heap.objs.size)) Q E { s with heap := s.heap.push { cls := .type "slice", data := .fields #[.int k t, .none, .none] } } := by
  have F2 := F.push { cls := .type "slice", data := .fields #[.int k t, .none, .none] }
  have N2 := (N.pushKeep { cls := .type "slice", data := .fields #[.int k t, .none, .none] })
  have hl2 : (s.heap.push { cls := .type "slice", data := .fields #[.int k t, .none, .none] }).IsList l its.toArray := ⟨_, (N2 _ hl).1, rfl, _, rfl⟩
  refine tail_any (s := { s with heap := s.heap.push _ }) hl2.typeIs slot_list_getitem.lookup (wpAny_getItem_list_slice (s := { s with heap := s.heap.push _ }) hl2 (Heap.IsSliceOf.new ..) (.int k t) .none .none (by simp) ?_ (by rw [sizeLine_eq, List.size_toArray]; omega)) hs
  rw [pick_drop]
  exact h _ _ _ (hi.drop k) (F2.push _) (N2.push F2 (listOf (its.drop k).toArray 0)) (fun p hp => Nat.lt_of_lt_of_le (Heap.lt_size (N p hp).1) (by show s.heap.objs.size ≤ (s.heap.push _).objs.size; rw [Heap.size_push]; exact Nat.le_succ _))
end
end Mine
end

section
open PySem PySem.W PyProof.Rows PySem.Calls PySem.Spec
open Sem (wp)
open MeetsSeq
set_option Elab.async false
set_option maxRecDepth 100000
namespace Mine
section
variable {prog : Program} {w : World} {A : Around} {E : Value → Shared → Prop} {s : Shared} {h₀ : Heap} {m : Str → Option Value} {env : Env} {news : List (Addr × Obj)}
theorem comp_list {elt iter : Expr} {x y : Str} {px py : Pos} {scope : Scope} {cl : List (Str × Addr)} {pos spos : Pos} {Q : Flow → Shared → Prop} {ns : List Int} (f : Int → Int)
    (_F : Fr h₀ env.locals s.heap m) (_N : News h₀ env.locals s.heap news)
    (hsw : swapsWith (.ListComp elt [⟨.Name x px, iter, [], 0⟩] scope pos) (some (.Name y py)) spos.line env = pure true)
    (hh : A.handled = none) (hclos : closureFor scope env = pure cl) (hcell : ∀ z ∈ scope.names, z.2 ≠ .cell) (hkind : scope.kind = .function)
    (hnames : ∀ z ∈ scope.names, z.2 = .local → scope.names.lookup z.1 = some .local) (hx : scope.names.lookup x = some .local)
    (hy : env.kindOf y = some .local) (hp : (env.scope.kind == .class || (env.scope.kind == .module && env.locals != env.globals)) = false) (hns : ns.length ≤ 1000)
    (h : wpAny (model prog w) A (eval iter env) (fun xv s₁ => ∃ ax vs, xv = .ref ax ∧ s₁.heap.IsList ax vs.toArray ∧ IntsAre vs ns ∧ Fr h₀ env.locals s₁.heap m ∧ News h₀ env.locals s₁.heap news ∧ s₁.gens = s.gens ∧ s₁.os = s.os) E s)
    (helt : ∀ C a t s₂ m₂ E', a ∈ ns → s₂.heap.Ns C m₂ → m₂ x = some (.int a t) →
        wpAny (model prog w) A (eval elt (compEnvC scope cl C env)) (fun v s₃ => (∃ t', v = .int (f a) t') ∧ Keeps s₂ s₃) E' s₂)
    (hQ : ∀ D (ys : List Value) o s', o.cls = .type "list" → (∃ c, o.data = .seq ys.toArray c) → Fr h₀ env.locals s'.heap (fun z => if z = y then some (.ref D) else m z) → News h₀ env.locals s'.heap ((D, o) :: news) → IntsAre ys (ns.map f) → s'.gens = s.gens → s'.os = s.os → Q .next s')
    (hs : ∀ x, foldedSetIterable iter env x = pure x) :
    wpAny (model prog w) A (exec (.Assign [.Name y py] (.ListComp elt [⟨.Name x px, iter, [], 0⟩] scope pos) spos) env) Q E s := by
  refine Assign_ListComp_DC (h₀ := h₀) (m := m) (news := news) (K := ItemKind.int) (pz := fun _ => true) (d := fun a => .int (f a)) hsw rfl hh hclos hcell hkind hnames hx hy hp (wpAny_mono h (fun xv s₁ h₁ => ?_) fun _ _ e => e) hs
  obtain ⟨ax, vs, rfl, hl, hi, F₁, N₁, hg, ho⟩ := h₁
  refine ⟨ax, vs, ns, rfl, hl, hi.areOf, by rw [sizeLine_eq]; omega, F₁, N₁, ?_, ?_, ?_⟩
  · rintro C a v s₂ m₂ E' ha hv hn hm hk
    exact wpAny_pure ⟨rfl, _, _, rfl, fun _ _ e => e⟩
  · rintro C a v s₂ m₂ E' ha hv hpz hn hm hk
    obtain ⟨t, rfl⟩ := hv
    refine wpAny_mono (helt C a t s₂ m₂ E' ha hn hm) (fun v s₃ h₃ => ?_) fun _ _ e => e
    obtain ⟨⟨t', rfl⟩, hk'⟩ := h₃
    exact ⟨.int _ _, hk'⟩
  · rintro D ys h' tk F' N' hD hlD hc
    obtain ⟨o, hoD, hcD, n, hdD⟩ := hlD
    have hDL : D ≠ env.locals := fun e => by
      obtain ⟨oL, _, _, hL, hd, _⟩ := F'.ns
      rw [← e, hoD] at hL
      rw [← Option.some.inj hL, hdD] at hd
      cases hd
    refine hQ D ys o { s₁ with heap := h', toks := tk } hcD ⟨n, hdD⟩ F' (fun p hp => ?_) (IntsAre.ofCarried (by rw [List.map_map]; rw [List.filter_eq_self.mpr (fun _ _ => rfl)] at hc; exact hc)) hg ho
    rcases List.mem_cons.mp hp with rfl | hp
    · exact ⟨hoD, hDL, hD⟩
    · exact N' p hp
end
end Mine
end

section
open PySem PySem.W PyProof.Rows PySem.Calls PySem.Spec
open Sem (wp)
open MeetsSeq
set_option Elab.async false
set_option maxRecDepth 100000
namespace Mine
section
variable {prog : Program} {w : World} {A : Around} {E : Value → Shared → Prop} {s : Shared} {Q : Value → Shared → Prop}
theorem strs_item {value slice : Expr} {l : Addr} {vs : List Value} {ys : List Str} {k : Int} {u : Tok} (hl : s.heap.IsList l vs.toArray) (hi : StrsAre vs ys) (h0 : 0 ≤ k) (hk : k < ys.length) (hf : ys.length < 1000)
    (h : ∀ y t', y ∈ ys → Q (.str y t') s)
    (hs : subscripted slice false (.ref l) (.int k u) = operate [.ref l, .int k u] (getItem (.ref l) (.int k u))) :
    wpAny (model prog w) A (subscriptTail value slice (.ref l) (.int k u)) Q E s := by
  have hlt : k.toNat < ys.length := by omega
  obtain ⟨t', ht'⟩ := hi.get k.toNat ys[k.toNat] (by simp [hlt])
  exact tail_any hl.typeIs slot_list_getitem.lookup (wpAny_getItem_list hl h0 (by omega) (by simpa using ht') (h _ t' (List.getElem_mem hlt))) hs
end
end Mine
end

section
open PySem PySem.W PyProof.Rows PySem.Calls PySem.Spec
open Sem (wp)
open MeetsSeq
set_option Elab.async false
set_option maxRecDepth 100000
namespace Mine
theorem codeTab_of {K : Frag} {h : Heap} {c P : Addr} (X : K.In h) (e : codeHdIn K c P = true) : isCodeTable h P := by
  obtain ⟨o, vs, _, _, _, _, _, _, _, h1, h2, h3, h4, _⟩ := codeHd_of_K X e
  exact ⟨c, o, vs, h1, h2, h3, h4⟩
theorem tab_was {h₀ h : Heap} {t : Addr} {a : Array Value} (r : h.get? t = some (tabO a)) (c : isCodeTable h₀ t) : asItWas h₀ h t (tabO #[]) :=
  .inr (.inl ⟨c, rfl, #[], a, rfl, by rw [r]; simp⟩)
theorem old_two {h₀ g h : Heap} {t1 t2 : Addr} {a b : Array Value} (up : ∀ b o, h₀.get? b = some o → b ≠ t1 → b ≠ t2 → g.get? b = some o) (keep : ∀ b o, g.get? b = some o → h.get? b = some o)
    (g1 : h₀.get? t1 = some (tabO #[])) (g2 : h₀.get? t2 = some (tabO #[])) (r1 : h.get? t1 = some (tabO a)) (r2 : h.get? t2 = some (tabO b)) (c1 : isCodeTable h₀ t1) (c2 : isCodeTable h₀ t2) : OldK h₀ h where
  old := fun c o e => by
    by_cases q1 : c = t1
    · subst q1
      rw [g1] at e
      rw [← Option.some.inj e]
      exact tab_was r1 c1
    by_cases q2 : c = t2
    · subst q2
      rw [g2] at e
      rw [← Option.some.inj e]
      exact tab_was r2 c2
    exact .inl (keep _ _ (up c o e q1 q2))
  there := fun c o e => by
    by_cases q1 : c = t1
    · exact ⟨_, q1 ▸ r1⟩
    by_cases q2 : c = t2
    · exact ⟨_, q2 ▸ r2⟩
    exact ⟨_, keep _ _ (up c o e q1 q2)⟩
end Mine
end

section
open PySem PySem.W PyProof.Rows PySem.Calls
set_option maxHeartbeats 2000000
namespace Mine
local macro_rules | `(tactic| walk_at "fact") => `(tactic| first | assumption | (with_reducible rename _ ∧ _ => hc; first | exact hc.1 | exact hc.2.1 | exact hc.2.2.1 | exact hc.2.2.2.1 | exact hc.2.2.2.2.1 | exact hc.2.2.2.2.2.1 | exact hc.2.2.2.2.2.2.1 | exact hc.2.2.2.2.2.2.2.1 | exact hc.2.2.2.2.2.2.2.2.1 | exact hc.2.2.2.2.2.2.2.2.2.1 | exact hc.2 | exact hc.2.2 | exact hc.2.2.2 | exact hc.2.2.2.2 | exact hc.2.2.2.2.2 | exact hc.2.2.2.2.2.2 | exact hc.2.2.2.2.2.2.2 | exact hc.2.2.2.2.2.2.2.2 | (clear hc; walk_at "fact")))
local macro_rules | `(tactic| k_ne) => `(tactic| (refine neN ?_; (try dsimp only); first | (refine Nat.ne_of_lt ?_; walk_at "fact") | (refine Nat.ne_of_gt ?_; walk_at "fact") | omega))
local macro_rules | `(tactic| ktr_room) => `(tactic| first | ((try simp only [depth_under_make, depth_under_kw, depth_in1, depth_deeper, depth_caller]); decide) | ((try simp only [depth_under_make, depth_under_kw, depth_in1, depth_deeper, depth_caller]); (try dsimp only [ktrTop]); refine (fun {b} (h : b < _) (e : _ ≤ b) => Nat.lt_of_le_of_lt e h) (by assumption) ?_; (try simp only [Nat.add_assoc, Nat.reduceAdd]); first | exact Nat.add_le_add_left (Nat.le_of_ble_eq_true rfl) _ | omega) | (simp only [recursionLimit] at *; omega))
local macro_rules | `(tactic| ktr_units) => `(tactic| first | ((try simp only [units_in1, units_deeper, Around.mark_units, units_caller]); (try dsimp only [ktrTop]); refine (fun {b} (h : b < _) (e : _ ≤ b) => Nat.lt_of_le_of_lt e h) (by assumption) ?_; (try simp only [Nat.add_assoc, Nat.reduceAdd]); first | exact Nat.add_le_add_left (Nat.le_of_ble_eq_true rfl) _ | omega) | ((have hcL9 := cLine_is); (try simp only [units_in1, units_deeper, Around.mark_units, units_caller] at *); (try dsimp only [ktrTop] at *); omega))
local macro_rules | `(tactic| k_asm) => `(tactic| with_reducible assumption)
local macro_rules | `(tactic| k_in) => `(tactic| first | with_reducible assumption | exact Frag.In.keeps (by with_reducible assumption) (Fr.keep (by with_reducible assumption)))
section
local macro_rules | `(tactic| cell_enter) => `(tactic| (refine' code_defR ?k1 ?k2 ?k3 ?k4 ?k5 ?kM ?kA ?kF ?kK ?k6 ?k7 ?k8 ?k9 ?kB ?_ ?c2 ?c3 ?c4 ?c5; (case kA => exact rfl); (case kF => exact rfl); (case kK => walk_at "kK"); (case k1 => k_asm); (case k2 => k_asm); (case k3 => k_asm); (case k4 => k_asm); (case k5 => k_asm); (case kM => k_asm); (case k6 => k_is); (case k7 => k_is); (case k8 => ktr_room); (case k9 => first | exact BindsTo.of_eq rfl | exact binds_K (by k_in) rfl (by k_is) rfl rfl rfl); (case c5 => decide); (case kB => exact locs rfl); (case c2 => exact rfl); (case c3 => exact rfl); (case c4 => exact rfl); k_whole; intro g' L' h' FG' F' N' B' X' T' BM'; (try dsimp only); (try k_lift B'); (try k_fold)))
local macro_rules | `(tactic| k_mem) => `(tactic| first | with_reducible assumption | with_reducible exact List.mem_cons_self | (with_reducible refine List.mem_cons_of_mem _ ?_; k_mem))
local macro_rules | `(tactic| k_all) => `(tactic| with_reducible assumption)
section
local macro_rules | `(tactic| k_inst) => `(tactic| (refine' InstAt_acc ?N ?h1 ?h2; (case N => k_asm); (case h1 => k_mem); (case h2 => k_mem)))
local macro_rules | `(tactic| ks_enter) => `(tactic| (refine' code_superR ?k1 ?k2 ?k3 ?k4 ?k5 ?kM ?kA ?kF ?kK ?k6 ?k7 ?k8 ?k9 ?kB ?_ ?c1 ?c2 ?c3 ?c4; (case kA => exact rfl); (case kF => exact rfl); (case kK => walk_at "kK"); (case k1 => k_asm); (case k2 => k_asm); (case k3 => k_asm); (case k4 => k_asm); (case k5 => k_asm); (case kM => k_asm); (case k6 => k_is); (case k7 => k_is); (case k8 => ktr_room); (case k9 => first | exact BindsTo.of_eq rfl | exact binds_K (by k_in) rfl (by k_is) rfl rfl rfl); (case kB => exact locs rfl); (case c1 => decide); (case c2 => exact rfl); (case c3 => exact rfl); (case c4 => exact rfl); k_whole; intro g' L' h' FG' F' N' B' X' T' BM' l1; (try k_lt l1); (try dsimp only); (try k_lift B'); (try k_fold)))
local macro_rules | `(tactic| walk_at "wpAt") => `(tactic| (ks_step "attributeBase Call"; k_here; k_dflt (refine' nodeR ?k1 ?k2 ?k3 ?k4 ?k5 ?k6 ?k7 ?k8 ?k9 ?k10 ?k11 ?k12 ?k13 ?k14 ?k15 ?k16 ?k17 ?k18 ?k19 ?k20 ?k21 ?k22 ?_; (case k1 => k_asm); (case k2 => k_asm); (case k3 => k_asm); (case k4 => k_asm); (case k5 => k_is); (case k6 => exact rfl); (case k7 => exact rfl); (case k8 => refine' InstAt_acc ?N ?h1 ?h2; (case N => k_asm); (case h1 => k_mem); (case h2 => k_mem)); (case k9 => k_is); (case k10 => exact rfl); (case k11 => first | exact rfl | decide +kernel); (case k12 => k_is); (case k13 => k_is); (case k14 => k_is); (case k15 => k_is); (case k16 => decide); (case k17 => exact rfl); (case k18 => exact rfl); (case k19 => exact rfl); (case k20 => exact rfl); (case k21 => decide +kernel); (case k22 => first | boot_by_name | exact rfl | kernel_rfl)); intro so' h' F' N' l1; (try k_lt l1)))
local macro_rules | `(tactic| walk_at "getAttr ref") => `(tactic| (k_here; k_dflt (refine' acc_own ?k1 ?k2 ?k3 ?k4 ?k5 ?k6 ?k7 ?k8 ?k9 ?k10 ?k11 ?_; (case k3 => (refine' InstAt_acc ?N ?h1 ?h2; (case N => k_asm); (case h1 => k_mem); (case h2 => k_mem))); (case k1 => k_asm); (case k2 => k_asm); (case k4 => k_is); (case k5 => k_is); (case k6 => k_is); (case k7 => k_is); (case k8 => k_is); (case k9 => k_is); (case k10 => k_get); (case k11 => k_handed); k_whole)))
local macro_rules | `(tactic| walk_at "getMethod ref") => `(tactic| (k_here; k_dflt (refine' acc_meth ?k1 ?k2 ?k3 ?k4 ?k5 ?k6 ?k7 ?k8 ?k9 ?_; (case k3 => (refine' InstAt_acc ?N ?h1 ?h2; (case N => k_asm); (case h1 => k_mem); (case h2 => k_mem))); (case k1 => k_asm); (case k2 => k_asm); (case k4 => k_is); (case k5 => k_is); (case k6 => k_is); (case k7 => k_is); (case k8 => decide); (case k9 => k_get); k_whole)))
local macro_rules | `(tactic| walk_at "getMethod ref") => `(tactic| (k_here; (with_reducible show wpAny _ _ (getMethod (Value.ref _) (PySem.Str.ofString "__len__") _) _ _ _); k_dflt (refine' sup_len ?k1 ?k2 ?k3 ?k4 ?k5 ?k6 ?k7 ?k8 ?_; (case k3 => k_asm); (case k4 => k_mem); (case k1 => k_asm); (case k2 => k_asm); (case k5 => refine' InstAt_acc ?N ?h1 ?h2; (case N => k_asm); (case h1 => k_mem); (case h2 => k_mem)); (case k6 => k_is); (case k7 => ks_is); (case k8 => k_is); k_whole); intro q' h' F' N' l1; (try k_lt l1); (try dsimp only)))
local macro_rules | `(tactic| walk_at "getMethod ref") => `(tactic| (k_here; (with_reducible show wpAny _ _ (getMethod (Value.ref _) (PySem.Str.ofString "pop") _) _ _ _); k_dflt (refine' sup_pop ?k1 ?k2 ?k3 ?k4 ?k5 ?k6 ?k7 ?k8 ?_; (case k3 => k_asm); (case k4 => k_mem); (case k1 => k_asm); (case k2 => k_asm); (case k5 => refine' InstAt_acc ?N ?h1 ?h2; (case N => k_asm); (case h1 => k_mem); (case h2 => k_mem)); (case k6 => k_is); (case k7 => ks_is); (case k8 => k_is); k_whole); intro q' h' F' N' l1; (try k_lt l1); (try dsimp only)))
local macro_rules | `(tactic| walk_at "getMethod ref") => `(tactic| (k_here; (with_reducible show wpAny _ _ (getMethod (Value.ref _) (PySem.Str.ofString "__init__") _) _ _ _); k_dflt (refine' sup_init ?k1 ?k2 ?k3 ?k4 ?k5 ?k6 ?k7 ?k8 ?_; (case k3 => k_asm); (case k4 => k_mem); (case k1 => k_asm); (case k2 => k_asm); (case k5 => refine' InstAt_acc ?N ?h1 ?h2; (case N => k_asm); (case h1 => k_mem); (case h2 => k_mem)); (case k6 => k_is); (case k7 => ks_is); (case k8 => k_is); k_whole); intro q' h' F' N' l1; (try k_lt l1); (try dsimp only)))
local macro_rules | `(tactic| walk_at "call ref") => `(tactic| (k_here; k_dflt (refine' call_blen ?k1 ?k2 ?k3 ?_; (case k1 => k_asm); (case k2 => k_mem); (case k3 => k_mem); k_whole)))
local macro_rules | `(tactic| walk_at "callWith ref") => `(tactic| (k_here; k_dflt (first
  | (refine' callWith_B0 ?k1 ?k2 (.inl rfl) ?_; (case k1 => k_asm); (case k2 => k_mem); k_whole)
  | (refine' callWith_B0 ?k1 ?k2 (.inr rfl) ?_; (case k1 => k_asm); (case k2 => k_mem); k_whole)); (try dsimp only)))
local macro_rules | `(tactic| walk_at "wpAt") => `(tactic| dsimp only)
local macro_rules | `(tactic| walk_at "wpAt") => `(tactic| (ks_step "eval Call"; k_dflt (refine ks_wpAt_MethodCall ?_)))
local macro_rules | `(tactic| walk_at "call type:str") => `(tactic| (k_here; (with_reducible show wpAny _ _ (call (Value.type "str") [Value.ref _]) _ _ _); k_dflt (refine' kso_call ?k1 ?k2 ?k3 ?k4 ?k5 ?_; (case k1 => ktr_units); (case k2 => k_in); (case k3 => refine' InstAt_acc ?N ?h1 ?h2; (case N => k_asm); (case h1 => k_mem); (case h2 => k_mem)); (case k4 => k_is); (case k5 => k_is); k_whole)))
local macro_rules | `(tactic| walk_at "getAttr ref") => `(tactic| (k_here; k_dflt (refine' acc_bound ?k1 ?k2 ?k3 ?k4 ?k5 ?k6 ?k7 ?k8 ?k9 ?k10 ?k11 ?k12 ?k13 ?k14 ?_; (case k4 => (refine' InstAt_acc ?N ?h1 ?h2; (case N => k_asm); (case h1 => k_mem); (case h2 => k_mem))); (case k1 => k_asm); (case k2 => k_asm); (case k3 => k_asm); (case k5 => k_is); (case k6 => k_is); (case k7 => k_is); (case k8 => k_is); (case k9 => k_is); (case k10 => k_is); (case k11 => k_is); (case k12 => k_is); (case k13 => decide +kernel); (case k14 => k_get); k_whole); intro q' h' F' N' l1; (try k_lt l1)))
local macro_rules | `(tactic| walk_at "eval Call Attribute") => `(tactic| (k_here; (with_reducible show wpAny _ _ (eval (Expr.Call (Expr.Attribute _ _ _) [Expr.Starred _ _] [] _) _) _ _ _); k_dflt (refine MethodStar_ ?_)))
local macro_rules | `(tactic| walk_at "callWith ref") => `(tactic| (k_here; (with_reducible show wpAny _ _ (callWith _ (Value.ref _) _ (backTo _ (starEach [Expr.Starred _ _] _)) []) _ _ _); k_dflt (refine' callWith_MS ?k1 ?k2 ?k3 ?k4 ?_; (case k1 => k_asm); (case k2 => k_asm); (case k3 => k_mem); (case k4 => k_is); k_whole)))
variable {w : World} {dp un : Nat} {gd : Option (List Code)} {cn : Str} {cs : Scope} {a : Addr} {ccd : Value} {cl : List (Str × Addr)} {outer : List Env} {A₀ : Around} {base h₀ : Heap} {L : Addr} {m : Str → Option Value} {s : Shared} {Q E : Value → Shared → Prop} {p : Program} {loose : List Str} {mg mb : Str → Option Value} {news : List (Addr × Obj)}
section
local macro_rules | `(tactic| walk_at "kK") => `(tactic| assumption)
theorem lo195 (w : World) : listOver (hd.heap_1 w.params) 195 = true := by kernel_rfl
theorem qn195 (w : World) : (clsIn (hd.heap_1 w.params) 195).map (·.qualname.toString) = some "_Accumulator" := by kernel_rfl
theorem c_count {ac ad : Addr} {t0 t1 : Tok} {h1 : Int} {its : List Value} {n1 : Nat} 
   (B : Below A₀ base outer h₀) (F : Fr h₀ L s.heap m) (KX : (hd.heap_1 w.params).In h₀) (N : News h₀ L s.heap news) (T : TopRead p loose mg mb h₀) (BM : BMain mg h₀) (hk : cs.kind = .function) (hdp : dp + 10 < recursionLimit) (hu : un + 100 < cLine)
   (hac : (ac, accO 195 ad its.toArray n1) ∈ news) (had : (ad, dictOf [⟨h1, .str "_initial_size" t1, .int 0 t0⟩] 1) ∈ news) 
   (hret : ∀ t h' tk', Fr h₀ L h' m → News h₀ L h' news → Q (.int its.length t) { s with heap := h', toks := tk' }) :
   wpAny (model PySem.Challenge.rw_tc0049_01.prog w) (ktrTop dp un gd cn cs L a ccd cl outer) (call (.ref 192) [.ref ac] []) Q E s := by
  revert KX; k_fill; intro KX; refine wpAny_call ?_
  k_dflt ks_enter
  k_steps
  rw [List.size_toArray]
  rename News _ _ _ (_ :: _ :: news) => N9
  exact hret _ _ _ (by k_asm) (fun p hp => N9 p (.tail _ (.tail _ hp)))
theorem c_pushC {ac ad : Addr} {t0 t1 : Tok} {h1 : Int} {its : List Value} {n1 : Nat} {x y : Value} {nw : Addr → List (Addr × Obj)}
   (B : Below A₀ base outer h₀) (F : Fr h₀ L s.heap m) (KX : (hd.heap_1 w.params).In h₀) (N : News h₀ L s.heap news) (T : TopRead p loose mg mb h₀) (BM : BMain mg h₀) (hk : cs.kind = .function) (hdp : dp + 10 < recursionLimit) (hu : un + 100 < cLine)
   (hac : (ac, accO 195 ad its.toArray n1) ∈ news) (had : (ad, dictOf [⟨h1, .str "_initial_size" t1, .int 0 t0⟩] 1) ∈ news) (hsz : its.length < 1000)
   (U : ∀ tp : Addr, Upd ac (accO 195 ad its.toArray n1) (accO 195 ad (its ++ [Value.ref tp]).toArray (n1 + 1)) news (nw tp))
   (hret : ∀ tp h' tk', Fr h₀ L h' m → News h₀ L h' ((tp, tupO x y) :: nw tp) → (∀ p ∈ news, p.1 < tp) → Q .none { s with heap := h', toks := tk' }) :
   codeAny (model PySem.Challenge.rw_tc0049_01.prog w) (ktrTop dp un gd cn cs L a ccd cl outer) (.call (.ref 139) ⟨[.ref ac, x, y], []⟩) (fun r s' => match r with | .ok (.ret v) => Q v s' | .ok _ => False | .error e => E e s') s := by
  revert KX; k_fill; intro KX
  k_dflt cell_enter
  k_steps
  rename ∀ p ∈ news, p.1 < _ => l9
  rename News _ _ _ (_ :: news) => N9
  refine' acc_append ?F ?X N9 (InstAt_acc N9 (.tail _ hac) (.tail _ had)) ?hm (.tail ?ne (by rw [List.push_toArray]; exact U _)) ?_ ?sz
  case F => k_asm
  case X => k_asm
  case hm => k_is
  case ne => exact Nat.ne_of_gt (l9 _ hac)
  case sz => rw [List.size_toArray, sizeLine_eq]; omega
  intro h8 F8 N8
  k_steps
  exact hret _ _ _ (by k_asm) (by k_asm) l9
theorem c_push {ac ad : Addr} {t0 t1 : Tok} {h1 : Int} {its : List Value} {n1 : Nat} {x y : Value} {nw : Addr → List (Addr × Obj)}
   (B : Below A₀ base outer h₀) (F : Fr h₀ L s.heap m) (KX : (hd.heap_1 w.params).In h₀) (N : News h₀ L s.heap news) (T : TopRead p loose mg mb h₀) (BM : BMain mg h₀) (hk : cs.kind = .function) (hdp : dp + 10 < recursionLimit) (hu : un + 100 < cLine)
   (hac : (ac, accO 195 ad its.toArray n1) ∈ news) (had : (ad, dictOf [⟨h1, .str "_initial_size" t1, .int 0 t0⟩] 1) ∈ news) (hsz : its.length < 1000)
   (U : ∀ tp : Addr, Upd ac (accO 195 ad its.toArray n1) (accO 195 ad (its ++ [Value.ref tp]).toArray (n1 + 1)) news (nw tp))
   (hret : ∀ tp h' tk', Fr h₀ L h' m → News h₀ L h' ((tp, tupO x y) :: nw tp) → (∀ p ∈ news, p.1 < tp) → Q .none { s with heap := h', toks := tk' }) :
   wpAny (model PySem.Challenge.rw_tc0049_01.prog w) (ktrTop dp un gd cn cs L a ccd cl outer) (call (.ref 139) [.ref ac, x, y] []) Q E s := wpAny_call (c_pushC B F KX N T BM hk hdp hu hac had hsz U hret)
theorem c_popf {ac ad : Addr} {t0 t1 : Tok} {h1 : Int} {its : List Value} {n1 k : Nat} {i : Int} {t : Tok} {nw : List (Addr × Obj)}
   (B : Below A₀ base outer h₀) (F : Fr h₀ L s.heap m) (KX : (hd.heap_1 w.params).In h₀) (N : News h₀ L s.heap news) (T : TopRead p loose mg mb h₀) (BM : BMain mg h₀) (hk : cs.kind = .function) (hdp : dp + 10 < recursionLimit) (hu : un + 100 < cLine)
   (hac : (ac, accO 195 ad its.toArray n1) ∈ news) (had : (ad, dictOf [⟨h1, .str "_initial_size" t1, .int 0 t0⟩] 1) ∈ news) (hi : i = k) (hk9 : k < its.length) (hsz : its.length < 1000)
   (U : Upd ac (accO 195 ad its.toArray n1) (accO 195 ad (its.take k).toArray (n1 + 1)) news nw)
   (hret : ∀ l h' tk', Fr h₀ L h' m → News h₀ L h' ((l, listOf (its.drop k).toArray 0) :: nw) → (∀ p ∈ news, p.1 < l) → Q (.ref l) { s with heap := h', toks := tk' }) :
   wpAny (model PySem.Challenge.rw_tc0049_01.prog w) (ktrTop dp un gd cn cs L a ccd cl outer) (call (.ref 147) [.ref ac, .int i t] []) Q E s := by
  subst hi
  revert KX; k_fill; intro KX; refine wpAny_call ?_
  k_dflt cell_enter
  k_steps
  rename News _ _ _ news => N9
  refine' acc_from (k := k) (its := its) ?k1 ?k2 N9 (InstAt_acc N9 hac had) ?k3 ?k4 ?k5 (Nat.le_of_lt hk9) (by rw [sizeLine_eq]; omega) ?_
  case k1 => k_asm
  case k2 => k_asm
  case k3 => k_is
  case k4 => k_is
  case k5 => k_is
  intro l8 h8 F8 N8 l9
  k_steps
  rename News _ _ _ (_ :: _ :: news) => M9
  rename _ ∧ AllLt _ _ => l1
  have hlt := Nat.lt_trans (l9 _ hac) l1.1
  refine' acc_setS (its := its) (new := []) (r := its.take k) (lo := some (k : Int)) (hi := none) ?k1 ?k2 M9 (.tail _ (.tail _ hac)) (.tail _ (.tail _ had)) ?k3 ?k4 ?k5 (.int _ _) .none (.head _) (Nat.ne_of_lt hlt) ?z ?b ?r ?n (.tail (Nat.ne_of_gt hlt) (.tail (Nat.ne_of_gt (l9 _ hac)) U)) ?_
  case k1 => k_asm
  case k2 => k_asm
  case k3 => k_is
  case k4 => k_is
  case k5 => k_is
  case z => rw [sizeLine_eq]; simp; omega
  case b => rw [bounds_from k _ (Nat.le_of_lt hk9)]
  case r => rw [set_from _ _ _ (Nat.le_of_lt hk9), List.append_nil]
  case n => rw [if_neg (by rw [List.length_take]; omega)]
  intro h7 F7 N7
  k_steps
  rename News h₀ _ _ _ => N9
  exact hret _ _ _ (by k_asm) (fun p hp => N9 p (.tail _ hp)) l9
theorem c_reset {ac ad l : Addr} {t0 t1 : Tok} {h1 : Int} {its : List Value} {n1 c n' : Nat} {new : List Value} {nw1 : List (Addr × Obj)} {nw : Tok → List (Addr × Obj)}
   (B : Below A₀ base outer h₀) (F : Fr h₀ L s.heap m) (KX : (hd.heap_1 w.params).In h₀) (N : News h₀ L s.heap news) (T : TopRead p loose mg mb h₀) (BM : BMain mg h₀) (hk : cs.kind = .function) (hdp : dp + 10 < recursionLimit) (hu : un + 100 < cLine)
   (hac : (ac, accO 195 ad its.toArray n1) ∈ news) (had : (ad, dictOf [⟨h1, .str "_initial_size" t1, .int 0 t0⟩] 1) ∈ news) (hl : (l, listOf new.toArray c) ∈ news) (hne : ac ≠ l) (hsz : its.length + new.length < 1000) (hn : n' = if new.length = its.length then n1 else n1 + 1)
   (U : Upd ac (accO 195 ad its.toArray n1) (accO 195 ad new.toArray n') news nw1) (hac' : (ac, accO 195 ad new.toArray n') ∈ nw1) (had' : (ad, dictOf [⟨h1, .str "_initial_size" t1, .int 0 t0⟩] 1) ∈ nw1)
   (U2 : ∀ t0', Upd ad (dictOf [⟨h1, .str "_initial_size" t1, .int 0 t0⟩] 1) (dictOf [⟨h1, .str "_initial_size" t1, .int 0 t0'⟩] 1) nw1 (nw t0'))
   (hret : ∀ t0' h' tk', Fr h₀ L h' m → News h₀ L h' (nw t0') → Q .none { s with heap := h', toks := tk' }) :
   wpAny (model PySem.Challenge.rw_tc0049_01.prog w) (ktrTop dp un gd cn cs L a ccd cl outer) (call (.ref 177) [.ref ac, .ref l] []) Q E s := by
  revert KX; k_fill; intro KX; refine wpAny_call ?_
  k_dflt cell_enter
  k_steps
  rename News _ _ _ news => M9
  refine' acc_setS (its := its) (new := new) (r := new) (lo := none) (hi := none) ?k1 ?k2 M9 hac had ?k3 ?k4 ?k5 .none .none hl hne ?z ?b (set_all _ _) hn U ?_
  case k1 => k_asm
  case k2 => k_asm
  case k3 => k_is
  case k4 => k_is
  case k5 => k_is
  case z => rw [sizeLine_eq]; omega
  case b => rw [bounds_all]
  intro h7 F7 N7
  k_steps
  refine' acc_setA ?k1 ?k2 N7 (InstAt_acc N7 hac' had') rfl ?k6 ?k7 ?k8 ?k9 ?k10 ?k11 ?k12 ?k13 ?_
  case k1 => k_asm
  case k2 => k_asm
  case k6 => k_is
  case k7 => exact lo195 w
  case k8 => k_is
  case k9 => k_is
  case k10 => k_get
  case k11 => k_put
  case k12 => exact U2 _
  case k13 => exact Nat.le_of_ble_eq_true rfl
  intro h6 F6 N6
  k_steps
  exact hret _ _ _ (by k_asm) (by k_asm)
end

section
local macro_rules | `(tactic| walk_at "pad") => `(tactic| fail)
local macro_rules | `(tactic| walk_at "kK") => `(tactic| assumption)
theorem c_len {ac ad : Addr} {t0 t1 : Tok} {h1 : Int} {its : List Value} {n1 : Nat} {ps : Array Value} {nw : Array Value → List (Addr × Obj)} {qs : List (Str × Str)}
   (B : Below A₀ base outer h₀) (F : Fr h₀ L s.heap m) (KX : (hd.heap_1 w.params).In h₀) (N : News h₀ L s.heap news) (T : TopRead p loose mg mb h₀) (BM : BMain mg h₀) (hk : cs.kind = .function) (hdp : dp + 12 < recursionLimit) (hu : un + 120 < cLine)
   (hac : (ac, accO 195 ad its.toArray n1) ∈ news) (had : (ad, dictOf [⟨h1, .str "_initial_size" t1, .int 0 t0⟩] 1) ∈ news)
   (U : ∀ ps', Upd 157 (tabO ps) (tabO ps') news (nw ps')) (hnw : nw ps = news) (G : AllBare s.gens) (htr : TriplesOk ps.toList) (hq : TupsIn news its qs) (hfit : lenAll qs < 2 ^ 62)
   (hret : ∀ t s' ps', TriplesOk ps'.toList → Fr h₀ L s'.heap m → News h₀ L s'.heap (nw ps') → AllBare s'.gens → s'.os = s.os → Q (.int (lenAll qs) t) s') :
   wpAny (model PySem.Challenge.rw_tc0049_01.prog w) (ktrTop dp un gd cn cs L a ccd cl outer) (call (.ref 162) [.ref ac] []) Q E s := by
  obtain ⟨ts, rfl, htup, hlen, hqs⟩ := hq.rows
  have hne : ac ≠ 157 := fun e => by have := upd_uniq (U ps) hac e; cases this
  have hne2 : ad ≠ 157 := fun e => by have := upd_uniq (U ps) had e; cases this
  revert KX; k_fill; intro KX; refine wpAny_call ?_
  k_dflt cell_enter
  k_steps
  rename TopRead _ _ _ _ _ => T'
  rename News _ _ _ _ => N'
  rename Fr _ _ _ (fun _ => _) => F'
  rename Frag.In _ _ => X'
  rename BMain _ _ => BM'
  refine gen_acc (Fe := fun i y => ∃ t, y = .int ((qs.map lenOf).getD i 0) t) (nw := nw) (c := 161) (P := 157) (hh := rfl) F' X' T' N' G (InstAt_acc N' hac had) (by k_is) (by k_is) BM' rfl rfl ?H U hnw htr hne rfl (fun t ht => tup_of N' (htup t ht)) rfl rfl (by decide) (by rfl) (by rfl) (by rfl) (by decide) rfl ?room ?iter ?elt ?hQ ?hs
  case H => exact ⟨_, _, _, _, _, _, _, _, _, by k_is, rfl, rfl, rfl, rfl, rfl, rfl, rfl, rfl, by decide⟩
  case room => ktr_room
  case hs => intro _; with_unfolding_all rfl
  case iter =>
    intro Q' hQ'
    k_steps
    exact hQ'
  case elt =>
    intro i t code D A' E' u m₂ hi hA hD hU hn ha hb TU XU
    obtain ⟨q, u', v', hq', e1, e2⟩ := hqs i t hi
    rw [e1] at ha; rw [e2] at hb
    have ev : (qs.map lenOf).getD i 0 = lenOf (q.1, q.2) := by simp [List.getD_eq_getElem?_getD, hq']
    have hle' := len_one hfit (List.mem_of_getElem? hq')
    rw [ev]
    exact elt_len hn TU rfl ⟨mg_none_of XU TU.g (by k_is), by decide⟩ ha hb hle'.1 hle'.2
  case hQ =>
    intro ag ps' s' htr' F5 N5 G5 ho5 hn5 hL5 X5
    have hac5 := upd_mem (U ps') hac hne
    have had5 := upd_mem (U ps') had hne2
    k_steps
    refine sum0_gen F5 G5 N5 hn5 (Gen.toks X5 (Nat.le_succ _)) hL5 (fun j => (qs.map lenOf).getD j 0) (fun j v hv => hv) (fun j hj => lens_fit qs hfit j (hlen ▸ hj)) ?_
    intro s6 t6 F6 N6 G6 ho6
    have ev : preSum (fun j => (qs.map lenOf).getD j 0) ts.length = lenAll qs := by rw [preSum_list, hlen, List.take_of_length_le (by simp)]; rfl
    rw [ev]
    k_steps
    exact hret _ _ _ htr' (by k_asm) (by k_asm) G6 (ho6.trans ho5)
end

section
local macro_rules | `(tactic| walk_at "pad") => `(tactic| fail)
local macro_rules | `(tactic| walk_at "pad") => `(tactic| fail)
local macro_rules | `(tactic| walk_at "kK") => `(tactic| assumption)
noncomputable def catOf (q : Str × Str) : Str := Txt.join "" [q.1, q.2]
noncomputable def catAll (qs : List (Str × Str)) : Str := Txt.join "" (qs.map catOf)
theorem c_str {ac ad : Addr} {t0 t1 : Tok} {h1 : Int} {its : List Value} {n1 : Nat} {ps : Array Value} {nw : Array Value → List (Addr × Obj)} {qs : List (Str × Str)}
   (B : Below A₀ base outer h₀) (F : Fr h₀ L s.heap m) (KX : (hd.heap_1 w.params).In h₀) (N : News h₀ L s.heap news) (T : TopRead p loose mg mb h₀) (BM : BMain mg h₀) (hk : cs.kind = .function) (hdp : dp + 12 < recursionLimit) (hu : un + 120 < cLine)
   (hac : (ac, accO 195 ad its.toArray n1) ∈ news) (had : (ad, dictOf [⟨h1, .str "_initial_size" t1, .int 0 t0⟩] 1) ∈ news)
   (U : ∀ ps', Upd 164 (tabO ps) (tabO ps') news (nw ps')) (hnw : nw ps = news) (G : AllBare s.gens) (htr : TriplesOk ps.toList) (hq : TupsIn news its qs) (hfit : lenAll qs < 2 ^ 20) (hok : JoinOk "" (qs.map catOf) = true) (hsz : qs.length < 1000)
   (hret : ∀ t s' ps', TriplesOk ps'.toList → Fr h₀ L s'.heap m → News h₀ L s'.heap (nw ps') → AllBare s'.gens → s'.os = s.os → Q (.str (catAll qs) t) s') :
   wpAny (model PySem.Challenge.rw_tc0049_01.prog w) (ktrTop dp un gd cn cs L a ccd cl outer) (call (.ref 169) [.ref ac] []) Q E s := by
  obtain ⟨ts, rfl, htup, hlen, hqs⟩ := hq.rows
  have hne : ac ≠ 164 := fun e => by have := upd_uniq (U ps) hac e; cases this
  have hne2 : ad ≠ 164 := fun e => by have := upd_uniq (U ps) had e; cases this
  revert KX; k_fill; intro KX; refine wpAny_call ?_
  k_dflt cell_enter
  k_steps
  rename TopRead _ _ _ _ _ => T'
  rename News _ _ _ _ => N'
  rename Fr _ _ _ (fun _ => _) => F'
  rename Frag.In _ _ => X'
  rename BMain _ _ => BM'
  refine gen_acc (Fe := fun i y => ∃ t, y = .str ((qs.map catOf).getD i "") t) (nw := nw) (c := 168) (P := 164) (hh := rfl) F' X' T' N' G (InstAt_acc N' hac had) (by k_is) (by k_is) BM' rfl rfl ?H U hnw htr hne rfl (fun t ht => tup_of N' (htup t ht)) rfl rfl (by decide) (by rfl) (by rfl) (by rfl) (by decide) rfl ?room ?iter ?elt ?hQ ?hs
  case H => exact ⟨_, _, _, _, _, _, _, _, _, by k_is, rfl, rfl, rfl, rfl, rfl, rfl, rfl, rfl, by decide⟩
  case room => ktr_room
  case hs => intro _; with_unfolding_all rfl
  case iter =>
    intro Q' hQ'
    k_steps
    exact hQ'
  case elt =>
    intro i t code D A' E' u m₂ hi hA hD hU hn ha hb TU XU
    obtain ⟨q, u', v', hq', e1, e2⟩ := hqs i t hi
    rw [e1] at ha; rw [e2] at hb
    have ev : (qs.map catOf).getD i "" = catOf (q.1, q.2) := by simp [List.getD_eq_getElem?_getD, hq']
    have hle' := len_one20 hfit (List.mem_of_getElem? hq')
    rw [ev]
    refine MethodCall_ ?_
    refine genn_k TU rfl (mg_of XU TU.g (by k_is)) ?_ rfl (by with_unfolding_all rfl) (by decide)
    walk1
    walk1
    walk1
    refine wpAny_Tuple_spliced ?_
    walk1
    refine genn_L hn ha ?_ rfl (by with_unfolding_all rfl) (by decide)
    walk1
    refine genn_L hn hb ?_ rfl (by with_unfolding_all rfl) (by decide)
    walk1
    refine ⟨by rw [sizeLine_eq]; simp, ?_⟩
    walk1
    show wpAny _ _ (call (.builtin "str.join") [.str "" _, .ref _]) _ _ _
    have e0 : (Str.ofString "").length = 0 := by decide
    refine join_tuple (ys := [q.1, q.2]) ⟨_, Heap.get?_push_size _ rfl, rfl, _, rfl⟩ (.cons _ _ (.cons _ _ .nil)) (by rw [e0]; simp; omega) ?_
    intro t' k
    exact ⟨⟨t', rfl⟩, _, _, rfl, fun _ _ e => Heap.get?_push_of_some _ e⟩
  case hQ =>
    intro ag ps' s' htr' F5 N5 G5 ho5 hn5 hL5 X5
    have hac5 := upd_mem (U ps') hac hne
    have had5 := upd_mem (U ps') had hne2
    k_steps
    have ev : (List.range ts.length).map (fun j => (qs.map catOf).getD j "") = qs.map catOf := by
      apply List.ext_getElem?
      intro j
      by_cases h : j < qs.length
      · simp [hlen, h, List.getD_eq_getElem?_getD]
      · simp [hlen, h]
    refine join_gen F5 G5 N5 hn5 X5 hL5 (fun j => (qs.map catOf).getD j "") (fun j v hv => hv) (by rw [ev]; exact hok) ?_ (by rw [sizeLine_eq]; omega)
    intro s6 t6 F6 N6 G6 ho6
    rw [ev]
    k_steps
    exact hret _ _ _ htr' (by k_asm) (by k_asm) G6 (ho6.trans ho5)
end

section
local macro_rules | `(tactic| walk_at "pad") => `(tactic| fail)
local macro_rules | `(tactic| walk_at "pad") => `(tactic| fail)
local macro_rules | `(tactic| walk_at "pad") => `(tactic| fail)
local macro_rules | `(tactic| walk_at "kK") => `(tactic| assumption)
theorem c_reset0 {ac ad : Addr} {t0 t1 : Tok} {h1 : Int} {its : List Value} {n1 n' : Nat} {nw1 : List (Addr × Obj)} {nw : Tok → List (Addr × Obj)}
   (B : Below A₀ base outer h₀) (F : Fr h₀ L s.heap m) (KX : (hd.heap_1 w.params).In h₀) (N : News h₀ L s.heap news) (T : TopRead p loose mg mb h₀) (BM : BMain mg h₀) (hk : cs.kind = .function) (hdp : dp + 10 < recursionLimit) (hu : un + 100 < cLine)
   (hac : (ac, accO 195 ad its.toArray n1) ∈ news) (had : (ad, dictOf [⟨h1, .str "_initial_size" t1, .int 0 t0⟩] 1) ∈ news) (hsz : its.length < 1000) (hn : n' = if 0 = its.length then n1 else n1 + 1)
   (U : Upd ac (accO 195 ad its.toArray n1) (accO 195 ad #[] n') news nw1) (hac' : (ac, accO 195 ad #[] n') ∈ nw1) (had' : (ad, dictOf [⟨h1, .str "_initial_size" t1, .int 0 t0⟩] 1) ∈ nw1)
   (U2 : ∀ t0', Upd ad (dictOf [⟨h1, .str "_initial_size" t1, .int 0 t0⟩] 1) (dictOf [⟨h1, .str "_initial_size" t1, .int 0 t0'⟩] 1) nw1 (nw t0'))
   (hret : ∀ t0' l h' tk', Fr h₀ L h' m → News h₀ L h' (nw t0') → (∀ p ∈ news, p.1 < l) → Q .none { s with heap := h', toks := tk' }) :
   wpAny (model PySem.Challenge.rw_tc0049_01.prog w) (ktrTop dp un gd cn cs L a ccd cl outer) (call (.ref 177) [.ref ac] []) Q E s := by
  revert KX; k_fill; intro KX; refine wpAny_call ?_
  k_dflt cell_enter
  k_steps
  rename ∀ p ∈ news, p.1 < _ => l9
  rename News _ _ _ (_ :: news) => M9
  have hlt := l9 _ hac
  refine' acc_setS (its := its) (new := []) (r := []) (lo := none) (hi := none) ?k1 ?k2 M9 (.tail _ hac) (.tail _ had) ?k3 ?k4 ?k5 .none .none (.head _) (Nat.ne_of_lt hlt) ?z ?b (set_all _ _) hn (.tail (Nat.ne_of_gt hlt) U) ?_
  case k1 => k_asm
  case k2 => k_asm
  case k3 => k_is
  case k4 => k_is
  case k5 => k_is
  case z => rw [sizeLine_eq]; simp; omega
  case b => rw [bounds_all]
  intro h7 F7 N7
  k_steps
  refine' acc_setA ?k1 ?k2 N7 (InstAt_acc N7 (.tail _ hac') (.tail _ had')) rfl ?k6 ?k7 ?k8 ?k9 ?k10 ?k11 ?k12 ?k13 ?_
  case k1 => k_asm
  case k2 => k_asm
  case k6 => k_is
  case k7 => exact lo195 w
  case k8 => k_is
  case k9 => k_is
  case k10 => k_get
  case k11 => k_put
  case k12 => exact .tail (Nat.ne_of_gt (l9 _ had)) (U2 _)
  case k13 => exact Nat.le_of_ble_eq_true rfl
  intro h6 F6 N6
  k_steps
  rename News h₀ _ _ _ => N9
  exact hret _ _ _ _ (by k_asm) (fun p hp => N9 p (.tail _ hp)) l9
theorem c_pop0 {ac ad : Addr} {t0 t1 : Tok} {h1 : Int} {n1 : Nat}
   (B : Below A₀ base outer h₀) (F : Fr h₀ L s.heap m) (KX : (hd.heap_1 w.params).In h₀) (N : News h₀ L s.heap news) (T : TopRead p loose mg mb h₀) (BM : BMain mg h₀) (hk : cs.kind = .function) (hdp : dp + 12 < recursionLimit) (hu : un + 120 < cLine)
   (hac : (ac, accO 195 ad #[] n1) ∈ news) (had : (ad, dictOf [⟨h1, .str "_initial_size" t1, .int 0 t0⟩] 1) ∈ news)
   (hret : ∀ l u t h' tk', Fr h₀ L h' m → News h₀ L h' ((l, tupO (.str "" u) (.str "" t)) :: news) → (∀ p ∈ news, p.1 < l) → Q (.ref l) { s with heap := h', toks := tk' }) :
   wpAny (model PySem.Challenge.rw_tc0049_01.prog w) (ktrTop dp un gd cn cs L a ccd cl outer) (call (.ref 155) [.ref ac] []) Q E s := by
  revert KX; k_fill; intro KX; refine wpAny_call ?_
  k_dflt ks_enter
  k_steps
  refine' c_count (its := []) ?k1 ?k2 ?k3 ?k4 ?k5 ?k6 rfl ?k8 ?k9 hac had ?_
  case k1 => k_asm
  case k2 => k_asm
  case k3 => k_asm
  case k4 => k_asm
  case k5 => k_asm
  case k6 => k_asm
  case k8 => ktr_room
  case k9 => ktr_units
  intro t9 h9 tk9 F9 N9
  k_steps
  exact hret _ _ _ _ _ (by k_asm) (by k_asm) (by assumption)
theorem c_pop1 {ac ad : Addr} {t0 t1 : Tok} {h1 : Int} {n1 : Nat} {its : List Value} {y : Value} {nw : List (Addr × Obj)}
   (B : Below A₀ base outer h₀) (F : Fr h₀ L s.heap m) (KX : (hd.heap_1 w.params).In h₀) (N : News h₀ L s.heap news) (T : TopRead p loose mg mb h₀) (BM : BMain mg h₀) (hk : cs.kind = .function) (hdp : dp + 12 < recursionLimit) (hu : un + 120 < cLine)
   (hac : (ac, accO 195 ad (its ++ [y]).toArray n1) ∈ news) (had : (ad, dictOf [⟨h1, .str "_initial_size" t1, .int 0 t0⟩] 1) ∈ news) (hsz : its.length < 1000) (U : Upd ac (accO 195 ad (its ++ [y]).toArray n1) (accO 195 ad its.toArray (n1 + 1)) news nw)
   (hret : ∀ h' tk', Fr h₀ L h' m → News h₀ L h' nw → Q y { s with heap := h', toks := tk' }) :
   wpAny (model PySem.Challenge.rw_tc0049_01.prog w) (ktrTop dp un gd cn cs L a ccd cl outer) (call (.ref 155) [.ref ac] []) Q E s := by
  revert KX; k_fill; intro KX; refine wpAny_call ?_
  k_dflt ks_enter
  k_steps
  refine' c_count (its := its ++ [y]) ?k1 ?k2 ?k3 ?k4 ?k5 ?k6 rfl ?k8 ?k9 hac had ?_
  case k1 => k_asm
  case k2 => k_asm
  case k3 => k_asm
  case k4 => k_asm
  case k5 => k_asm
  case k6 => k_asm
  case k8 => ktr_room
  case k9 => ktr_units
  intro t9 h9 tk9 F9 N9
  rw [show (((its ++ [y]).length : Nat) : Int) = ((its.length + 1 : Nat) : Int) by simp]
  k_steps
  · exfalso; omega
  rename News _ _ _ (_ :: _ :: news) => M9
  rename _ ∧ AllLt _ _ => l8
  rename ∀ p ∈ news, p.1 < _ => l9
  have hlt := l9 _ hac
  show wpAny _ _ (call (.ref _) []) _ _ _
  refine' call_bpop (its' := its.toArray) (y := y) ?k1 ?k2 M9 (.head _) (InstAt_acc M9 (.tail _ (.tail _ hac)) (.tail _ (.tail _ had))) ?k3 ?k4 (qn195 w) (by simp) (.tail (Nat.ne_of_gt (Nat.lt_trans hlt l8.1)) (.tail (Nat.ne_of_gt hlt) U)) (by rw [sizeLine_eq]; simp; omega) ?_
  case k1 => k_asm
  case k2 => k_asm
  case k3 => k_is
  case k4 => k_is
  intro h7 F7 N7
  k_steps
  rename News h₀ _ _ _ => N9
  exact hret _ _ (by k_asm) (fun p hp => N9 p (.tail _ (.tail _ hp)))
end

section
local macro_rules | `(tactic| walk_at "pad") => `(tactic| fail)
local macro_rules | `(tactic| walk_at "pad") => `(tactic| fail)
local macro_rules | `(tactic| walk_at "pad") => `(tactic| fail)
local macro_rules | `(tactic| walk_at "pad") => `(tactic| fail)
local macro_rules | `(tactic| walk_at "kK") => `(tactic| assumption)
theorem c_only {ac ad : Addr} {t0 t1 : Tok} {h1 : Int} {its : List Value} {n1 : Nat} {p1 p2 : Array Value} {nw : Array Value → Array Value → List (Addr × Obj)} {qs : List (Str × Str)}
   (B : Below A₀ base outer h₀) (F : Fr h₀ L s.heap m) (KX : (hd.heap_1 w.params).In h₀) (N : News h₀ L s.heap news) (T : TopRead p loose mg mb h₀) (BM : BMain mg h₀) (hk : cs.kind = .function) (hdp : dp + 16 < recursionLimit) (hu : un + 160 < cLine)
   (hac : (ac, accO 195 ad its.toArray n1) ∈ news) (had : (ad, dictOf [⟨h1, .str "_initial_size" t1, .int 0 t0⟩] 1) ∈ news)
   (U : ∀ a b, Upd 157 (tabO p1) (tabO a) (nw p1 b) (nw a b)) (U2 : ∀ a b, Upd 164 (tabO p2) (tabO b) (nw a p2) (nw a b)) (hnw : nw p1 p2 = news) (G : AllBare s.gens) (htr : TriplesOk p1.toList) (htr2 : TriplesOk p2.toList)
   (hq : TupsIn news its qs) (hfit : lenAll qs < 2 ^ 20) (hpos : 0 < lenAll qs) (hok : JoinOk "" (qs.map catOf) = true) (hsz : qs.length < 1000)
   (hret : ∀ s' a b, TriplesOk a.toList → TriplesOk b.toList → Fr h₀ L s'.heap m → News h₀ L s'.heap (nw a b) → AllBare s'.gens → s'.os = s.os → Q (.bool (Txt.isspace (catAll qs))) s') :
   wpAny (model PySem.Challenge.rw_tc0049_01.prog w) (ktrTop dp un gd cn cs L a ccd cl outer) (call (.ref 184) [.ref ac] []) Q E s := by
  subst hnw
  have hneA : ac ≠ 157 := fun e => by have := upd_uniq (U p1 p2) hac e; cases this
  have hneB : ad ≠ 157 := fun e => by have := upd_uniq (U p1 p2) had e; cases this
  revert KX; k_fill; intro KX; refine wpAny_call ?_
  k_dflt cell_enter
  k_steps
  rename News _ _ _ _ => N'
  refine' truthy_len (f := 162) ?k1 ?k2 (InstAt_acc N' hac had) ?k3 ?k4 ?k5 ?_
  case k1 => k_asm
  case k2 => k_asm
  case k3 => k_is
  case k4 => k_is
  case k5 => k_is
  refine' c_len (its := its) (nw := fun a => nw a p2) (qs := qs) ?k1 ?k2 ?k3 N' ?k5 ?k6 rfl ?k8 ?k9 hac had (fun a => U a p2) rfl ?kG htr hq ?kf ?_
  case k1 => k_asm
  case k2 => k_asm
  case k3 => k_asm
  case k5 => k_asm
  case k6 => k_asm
  case k8 => ktr_room
  case k9 => ktr_units
  case kG => exact G
  case kf => omega
  intro t9 s9 a9 htr9 F9 N9 G9 ho9
  refine ⟨by omega, ?_⟩
  have hb9 : (lenAll qs != 0) = true := by simp; omega
  rw [hb9]
  have hac9 := upd_mem (U a9 p2) hac hneA
  have had9 := upd_mem (U a9 p2) had hneB
  have hq9 : TupsIn (nw a9 p2) its qs := TupsIn.upd (U a9 p2) (by simp) hq
  k_steps
  refine' c_str (its := its) (nw := fun b => nw a9 b) (qs := qs) ?k1 ?k2 ?k3 N9 ?k5 ?k6 rfl ?k8 ?k9 hac9 had9 (fun b => U2 a9 b) rfl G9 htr2 hq9 hfit hok hsz ?_
  case k1 => k_asm
  case k2 => k_asm
  case k3 => k_asm
  case k5 => k_asm
  case k6 => k_asm
  case k8 => ktr_room
  case k9 => ktr_units
  intro t8 s8 a8 htr8 F8 N8 G8 ho8
  dsimp only [StrBack]
  k_steps
  exact hret _ _ _ htr9 htr8 (by k_asm) (by k_asm) G8 (ho8.trans ho9)
end

section
local macro_rules | `(tactic| walk_at "pad") => `(tactic| fail)
local macro_rules | `(tactic| walk_at "pad") => `(tactic| fail)
local macro_rules | `(tactic| walk_at "pad") => `(tactic| fail)
local macro_rules | `(tactic| walk_at "pad") => `(tactic| fail)
local macro_rules | `(tactic| walk_at "pad") => `(tactic| fail)
local macro_rules | `(tactic| walk_at "kK") => `(tactic| assumption)
noncomputable abbrev fmtO (fd : Addr) : Obj := ⟨.ref 111, some fd, .plain, #[]⟩
noncomputable abbrev fdO (hs : Nat → Int) (tk : Nat → Tok) (mw : Int) (sp : Str) (ls ac : Addr) : Obj := dictOf [⟨hs 1, .str "_maxlen" (tk 1), .int mw (tk 2)⟩, ⟨hs 2, .str "_continuation_ws" (tk 3), .str " " (tk 4)⟩, ⟨hs 3, .str "_continuation_ws_len" (tk 5), .int 1 (tk 6)⟩, ⟨hs 4, .str "_splitchars" (tk 7), .str sp (tk 8)⟩, ⟨hs 5, .str "_lines" (tk 9), .ref ls⟩, ⟨hs 6, .str "_current_line" (tk 10), .ref ac⟩] 6
theorem c_newline {f fd ls ac ad : Addr} {t0 t1 : Tok} {h1 : Int} {hs : Nat → Int} {tkn : Nat → Tok} {mw : Int} {sp : Str} {lines its : List Value} {nl n1 : Nat} {p1 p2 : Array Value} {rest : List (Addr × Obj)} {qs : List (Str × Str)} {ay : Addr} {u v : Tok} {q : Str × Str}
   (B : Below A₀ base outer h₀) (F : Fr h₀ L s.heap m) (KX : (hd.heap_1 w.params).In h₀) (N : News h₀ L s.heap ((f, fmtO fd) :: (fd, fdO hs tkn mw sp ls ac) :: (ls, listOf lines.toArray nl) :: (ac, accO 195 ad (its ++ [Value.ref ay]).toArray n1) :: (ad, dictOf [⟨h1, .str "_initial_size" t1, .int 0 t0⟩] 1) :: (157, tabO p1) :: (164, tabO p2) :: rest)) (T : TopRead p loose mg mb h₀) (BM : BMain mg h₀) (hk : cs.kind = .function) (hdp : dp + 24 < recursionLimit) (hu : un + 240 < cLine)
   (ord : 164 < fd ∧ fd < f ∧ f < ls ∧ ls < ad ∧ ad < ac) (hr : ∀ p ∈ rest, p.1 ≠ ls ∧ p.1 ≠ ac ∧ p.1 ≠ ad ∧ p.1 ≠ 157 ∧ p.1 ≠ 164) (G : AllBare s.gens) (htr : TriplesOk p1.toList) (htr2 : TriplesOk p2.toList)
   (hq : TupsIn rest its qs) (hy : (ay, tupO (.str q.1 u) (.str q.2 v)) ∈ rest) (hqo : PyData.strOk q.1 = true ∧ PyData.strOk q.2 = true) (hns : ¬ (q.1 = " " ∧ q.2 = "")) (hfit : lenAll (qs ++ [q]) < 2 ^ 20) (hpos : 0 < lenAll (qs ++ [q])) (hok : JoinOk "" ((qs ++ [q]).map catOf) = true) (hsz : its.length < 900)
   (hsp : Txt.isspace (catAll (qs ++ [q])) = false) (hln : lines.length < 1000)
   (hret : ∀ s' tv t0' nl' n1' a b, TriplesOk a.toList → TriplesOk b.toList → Fr h₀ L s'.heap m → News h₀ L s'.heap ((f, fmtO fd) :: (fd, fdO hs tkn mw sp ls ac) :: (ls, listOf (lines ++ [Value.str (catAll (qs ++ [q])) tv]).toArray nl') :: (ac, accO 195 ad #[] n1') :: (ad, dictOf [⟨h1, .str "_initial_size" t1, .int 0 t0'⟩] 1) :: (157, tabO a) :: (164, tabO b) :: rest) → AllBare s'.gens → s'.os = s.os → Q .none s') :
   wpAny (model PySem.Challenge.rw_tc0049_01.prog w) (ktrTop dp un gd cn cs L a ccd cl outer) (call (.ref 73) [.ref f] []) Q E s := by
  obtain ⟨o1, o2, o3, o4, o5⟩ := ord
  replace o1 := ltN o1; replace o2 := ltN o2; replace o3 := ltN o3; replace o4 := ltN o4; replace o5 := ltN o5
  have q02 := Nat.lt_trans o1 o2
  have q13 := Nat.lt_trans o2 o3
  have q24 := Nat.lt_trans o3 o4
  have q35 := Nat.lt_trans o4 o5
  have q03 := Nat.lt_trans q02 o3
  have q14 := Nat.lt_trans q13 o4
  have q25 := Nat.lt_trans q24 o5
  have q04 := Nat.lt_trans q03 o4
  have q15 := Nat.lt_trans q14 o5
  have q05 := Nat.lt_trans q04 o5
  have z1 : @LT.lt Nat _ 157 fd := Nat.lt_trans (by decide) o1
  have z2 : @LT.lt Nat _ 157 f := Nat.lt_trans (by decide) q02
  have z3 : @LT.lt Nat _ 157 ls := Nat.lt_trans (by decide) q03
  have z4 : @LT.lt Nat _ 157 ad := Nat.lt_trans (by decide) q04
  have z5 : @LT.lt Nat _ 157 ac := Nat.lt_trans (by decide) q05
  have r1 : ∀ p ∈ rest, p.1 ≠ ls := fun p hp => (hr p hp).1
  have r2 : ∀ p ∈ rest, p.1 ≠ ac := fun p hp => (hr p hp).2.1
  have r3 : ∀ p ∈ rest, p.1 ≠ ad := fun p hp => (hr p hp).2.2.1
  have r4 : ∀ p ∈ rest, p.1 ≠ 157 := fun p hp => (hr p hp).2.2.2.1
  have r5 : ∀ p ∈ rest, p.1 ≠ 164 := fun p hp => (hr p hp).2.2.2.2
  revert KX; k_fill; intro KX; refine wpAny_call ?_
  k_dflt cell_enter
  k_steps
  (refine' c_pop1 (its := its) (y := Value.ref ay) ?k1 ?k2 ?k3 ?k4 ?k5 ?k6 rfl ?k8 ?k9 ?ha ?hb (by omega) ?U ?_; (case k1 => k_asm); (case k2 => k_asm); (case k3 => k_asm); (case k4 => k_asm); (case k5 => k_asm); (case k6 => k_asm); (case k8 => ktr_room); (case k9 => ktr_units))
  case ha => k_mem
  case hb => k_mem
  case U => k_upd
  intro h9 tk9 F9 N9
  k_steps
  refine' tup_ne (x := q.1) (y := q.2) (x' := " ") (y' := "") ?N ?ha ?hb ?hu hqo ⟨by kernel_rfl, by kernel_rfl⟩ hns ?_
  case N => k_asm
  case ha => k_mem
  case hb => k_mem
  case hu => ktr_units
  k_steps
  refine' call_meth ?N ?q ?_
  case N => k_asm
  case q => k_mem
  (refine' c_pushC (its := its) ?k1 ?k2 ?k3 ?k4 ?k5 ?k6 rfl ?k8 ?k9 ?ha ?hb (by omega) ?U ?_; (case k1 => k_asm); (case k2 => k_asm); (case k3 => k_asm); (case k4 => k_asm); (case k5 => k_asm); (case k6 => k_asm); (case k8 => ktr_room); (case k9 => ktr_units))
  case ha => k_mem
  case hb => k_mem
  case U => intro tp; k_upd
  intro tp8 h8 tk8 F8 N8 l8
  (try k_lt l8)
  k_steps
  have hq8 : ∀ news', (∀ p ∈ rest, p ∈ news') → (tp8, tupO (.str q.1 u) (.str q.2 v)) ∈ news' → TupsIn news' (its ++ [Value.ref tp8]) (qs ++ [q]) := fun news' hs hm => (hq.mono hs).snoc hm
  (refine' c_len (its := its ++ [Value.ref tp8]) (qs := qs ++ [q]) (ps := p1) ?k1 ?k2 ?k3 ?k4 ?k5 ?k6 rfl ?k8 ?k9 ?ha ?hb ?U ?hnw ?G htr ?hq (by omega) ?_; (case k1 => k_asm); (case k2 => k_asm); (case k3 => k_asm); (case k4 => k_asm); (case k5 => k_asm); (case k6 => k_asm); (case k8 => ktr_room); (case k9 => ktr_units))
  case ha => k_mem
  case hb => k_mem
  case U => intro ps'; k_upd
  case hnw => rfl
  case G => exact G
  case hq => exact hq8 _ (fun p hp => by k_mem) (by k_mem)
  intro t7 s7 a7 htr7 F7 N7 G7 ho7
  dsimp only [PySem.W.LenBack] at N7 ⊢
  refine ⟨⟨by omega, by omega⟩, ?_⟩
  k_steps
  have hsl : (qs ++ [q]).length < 1000 := by rw [List.length_append, ← hq.len]; simp; omega
  have M7 := cb_drop (news := ((f, fmtO fd) :: (fd, fdO hs tkn mw sp ls ac) :: (ls, listOf lines.toArray nl) :: (ac, accO 195 ad (its ++ [Value.ref tp8]).toArray (n1 + 1 + 1)) :: (ad, dictOf [⟨h1, .str "_initial_size" t1, .int 0 t0⟩] 1) :: (157, tabO a7) :: (164, tabO p2) :: ((tp8, tupO (.str q.1 u) (.str q.2 v)) :: rest))) N7 (by (intro p hp; (repeat (rcases List.mem_cons.mp hp with rfl | hp; · k_mem)); k_mem)); clear N7
  (refine' c_only (its := its ++ [Value.ref tp8]) (qs := qs ++ [q]) (p1 := a7) (p2 := p2) (nw := fun a b => ((f, fmtO fd) :: (fd, fdO hs tkn mw sp ls ac) :: (ls, listOf lines.toArray nl) :: (ac, accO 195 ad (its ++ [Value.ref tp8]).toArray (n1 + 1 + 1)) :: (ad, dictOf [⟨h1, .str "_initial_size" t1, .int 0 t0⟩] 1) :: (157, tabO a) :: (164, tabO b) :: ((tp8, tupO (.str q.1 u) (.str q.2 v)) :: rest))) ?k1 ?k2 ?k3 ?k4 ?k5 ?k6 rfl ?k8 ?k9 ?ha ?hb ?U ?U2 rfl G7 htr7 htr2 ?hq hfit hpos hok hsl ?_; (case k1 => k_asm); (case k2 => k_asm); (case k3 => k_asm); (case k4 => k_asm); (case k5 => k_asm); (case k6 => k_asm); (case k8 => ktr_room); (case k9 => ktr_units))
  case ha => k_mem
  case hb => k_mem
  case U => intro a b; k_upd
  case U2 => intro a b; k_upd
  case hq => exact hq8 _ (fun p hp => by k_mem) (by k_mem)
  intro s6 a6 b6 htrA htrB F6 N6 G6 ho6
  rw [hsp]
  try dsimp only at N6
  k_steps
  (refine' c_str (its := its ++ [Value.ref tp8]) (qs := qs ++ [q]) (ps := b6) (nw := fun b => ((f, fmtO fd) :: (fd, fdO hs tkn mw sp ls ac) :: (ls, listOf lines.toArray nl) :: (ac, accO 195 ad (its ++ [Value.ref tp8]).toArray (n1 + 1 + 1)) :: (ad, dictOf [⟨h1, .str "_initial_size" t1, .int 0 t0⟩] 1) :: (157, tabO a6) :: (164, tabO b) :: ((tp8, tupO (.str q.1 u) (.str q.2 v)) :: rest))) ?k1 ?k2 ?k3 ?k4 ?k5 ?k6 rfl ?k8 ?k9 ?ha ?hb ?U rfl G6 htrB ?hq hfit hok hsl ?_; (case k1 => k_asm); (case k2 => k_asm); (case k3 => k_asm); (case k4 => k_asm); (case k5 => k_asm); (case k6 => k_asm); (case k8 => ktr_room); (case k9 => ktr_units))
  case ha => k_mem
  case hb => k_mem
  case U => intro b; k_upd
  case hq => exact hq8 _ (fun p hp => by k_mem) (by k_mem)
  intro t5 s5 b5 htr5 F5 N5 G5 ho5
  dsimp only [PySem.W.StrBack]
  try dsimp only at N5
  k_steps
  rename News _ _ _ _ => N4
  have M4 := cb_drop (news := ((f, fmtO fd) :: (fd, fdO hs tkn mw sp ls ac) :: (ls, listOf (lines.toArray.push (Value.str (catAll (qs ++ [q])) t5)) (nl + 1)) :: (ac, accO 195 ad (its ++ [Value.ref tp8]).toArray (n1 + 1 + 1)) :: (ad, dictOf [⟨h1, .str "_initial_size" t1, .int 0 t0⟩] 1) :: (157, tabO a6) :: (164, tabO b5) :: rest)) N4 (by (intro p hp; (repeat (rcases List.mem_cons.mp hp with rfl | hp; · k_mem)); k_mem)); clear N4
  (refine' c_reset0 (its := its ++ [Value.ref tp8]) (n' := n1 + 1 + 1 + 1) (nw := fun t9 => ((f, fmtO fd) :: (fd, fdO hs tkn mw sp ls ac) :: (ls, listOf (lines.toArray.push (Value.str (catAll (qs ++ [q])) t5)) (nl + 1)) :: (ac, accO 195 ad #[] (n1 + 1 + 1 + 1)) :: (ad, dictOf [⟨h1, .str "_initial_size" t1, .int 0 t9⟩] 1) :: (157, tabO a6) :: (164, tabO b5) :: rest)) ?k1 ?k2 ?k3 ?k4 ?k5 ?k6 rfl ?k8 ?k9 ?ha ?hb (by simp; omega) (by rw [if_neg (by rw [List.length_append]; simp)]) ?U ?ha2 ?hb2 ?U2 ?_; (case k1 => k_asm); (case k2 => k_asm); (case k3 => k_asm); (case k4 => k_asm); (case k5 => k_asm); (case k6 => k_asm); (case k8 => ktr_room); (case k9 => ktr_units))
  case ha => k_mem
  case hb => k_mem
  case U => k_upd
  case ha2 => k_mem
  case hb2 => k_mem
  case U2 => intro t9; k_upd
  intro t3 l3 h3 tk3 F3 N3 l33
  try dsimp only at N3
  k_steps
  rename News h₀ _ _ _ => N2
  simp only [List.push_toArray] at N2
  exact hret _ _ _ _ _ _ _ htrA htr5 (by k_asm) N2 G5 (ho5.trans (ho6.trans ho7))
end

section
local macro_rules | `(tactic| walk_at "pad") => `(tactic| fail)
local macro_rules | `(tactic| walk_at "pad") => `(tactic| fail)
local macro_rules | `(tactic| walk_at "pad") => `(tactic| fail)
local macro_rules | `(tactic| walk_at "pad") => `(tactic| fail)
local macro_rules | `(tactic| walk_at "pad") => `(tactic| fail)
local macro_rules | `(tactic| walk_at "pad") => `(tactic| fail)
local macro_rules | `(tactic| walk_at "kK") => `(tactic| assumption)
theorem lenAll_nonneg (qs : List (Str × Str)) : 0 ≤ lenAll qs := sum_nonneg _ fun x hx => by
  obtain ⟨q, _, rfl⟩ := List.mem_map.mp hx
  unfold lenOf; omega
theorem c_appN {f fd ls ac ad : Addr} {t0 t1 : Tok} {h1 : Int} {hs : Nat → Int} {tkn : Nat → Tok} {mw : Int} {sp : Str} {lines its : List Value} {nl n1 : Nat} {p1 p2 : Array Value} {rest : List (Addr × Obj)} {qs : List (Str × Str)} {x y : Str} {u v : Tok}
   (B : Below A₀ base outer h₀) (F : Fr h₀ L s.heap m) (KX : (hd.heap_1 w.params).In h₀) (N : News h₀ L s.heap ((f, fmtO fd) :: (fd, fdO hs tkn mw sp ls ac) :: (ls, listOf lines.toArray nl) :: (ac, accO 195 ad its.toArray n1) :: (ad, dictOf [⟨h1, .str "_initial_size" t1, .int 0 t0⟩] 1) :: (157, tabO p1) :: (164, tabO p2) :: rest)) (T : TopRead p loose mg mb h₀) (BM : BMain mg h₀) (hk : cs.kind = .function) (hdp : dp + 24 < recursionLimit) (hu : un + 240 < cLine)
   (ord : 164 < fd ∧ fd < f ∧ f < ls ∧ ls < ad ∧ ad < ac) (hr : ∀ p ∈ rest, p.1 ≠ ls ∧ p.1 ≠ ac ∧ p.1 ≠ ad ∧ p.1 ≠ 157 ∧ p.1 ≠ 164) (G : AllBare s.gens) (htr : TriplesOk p1.toList)
   (hq : TupsIn rest its qs) (hfit : lenAll (qs ++ [(x, y)]) < 2 ^ 20) (hle : lenAll (qs ++ [(x, y)]) ≤ mw) (hsz : its.length < 900)
   (hret : ∀ s' tp n1' a, TriplesOk a.toList → Fr h₀ L s'.heap m → News h₀ L s'.heap ((f, fmtO fd) :: (fd, fdO hs tkn mw sp ls ac) :: (ls, listOf lines.toArray nl) :: (ac, accO 195 ad (its ++ [Value.ref tp]).toArray n1') :: (ad, dictOf [⟨h1, .str "_initial_size" t1, .int 0 t0⟩] 1) :: (157, tabO a) :: (164, tabO p2) :: ((tp, tupO (.str x u) (.str y v)) :: rest)) → (∀ p ∈ ((f, fmtO fd) :: (fd, fdO hs tkn mw sp ls ac) :: (ls, listOf lines.toArray nl) :: (ac, accO 195 ad its.toArray n1) :: (ad, dictOf [⟨h1, .str "_initial_size" t1, .int 0 t0⟩] 1) :: (157, tabO p1) :: (164, tabO p2) :: rest), p.1 < tp) → AllBare s'.gens → s'.os = s.os → Q .none s') :
   wpAny (model PySem.Challenge.rw_tc0049_01.prog w) (ktrTop dp un gd cn cs L a ccd cl outer) (call (.ref 108) [.ref f, .str x u, .str y v] []) Q E s := by
  obtain ⟨o1, o2, o3, o4, o5⟩ := ord
  replace o1 := ltN o1; replace o2 := ltN o2; replace o3 := ltN o3; replace o4 := ltN o4; replace o5 := ltN o5
  have q02 := Nat.lt_trans o1 o2
  have q13 := Nat.lt_trans o2 o3
  have q24 := Nat.lt_trans o3 o4
  have q35 := Nat.lt_trans o4 o5
  have q03 := Nat.lt_trans q02 o3
  have q14 := Nat.lt_trans q13 o4
  have q25 := Nat.lt_trans q24 o5
  have q04 := Nat.lt_trans q03 o4
  have q15 := Nat.lt_trans q14 o5
  have q05 := Nat.lt_trans q04 o5
  have z1 : @LT.lt Nat _ 157 fd := Nat.lt_trans (by decide) o1
  have z2 : @LT.lt Nat _ 157 f := Nat.lt_trans (by decide) q02
  have z3 : @LT.lt Nat _ 157 ls := Nat.lt_trans (by decide) q03
  have z4 : @LT.lt Nat _ 157 ad := Nat.lt_trans (by decide) q04
  have z5 : @LT.lt Nat _ 157 ac := Nat.lt_trans (by decide) q05
  have r1 : ∀ p ∈ rest, p.1 ≠ ls := fun p hp => (hr p hp).1
  have r2 : ∀ p ∈ rest, p.1 ≠ ac := fun p hp => (hr p hp).2.1
  have r3 : ∀ p ∈ rest, p.1 ≠ ad := fun p hp => (hr p hp).2.2.1
  have r4 : ∀ p ∈ rest, p.1 ≠ 157 := fun p hp => (hr p hp).2.2.2.1
  have r5 : ∀ p ∈ rest, p.1 ≠ 164 := fun p hp => (hr p hp).2.2.2.2
  have hp0 := lenAll_nonneg (qs ++ [(x, y)])
  revert KX; k_fill; intro KX; refine wpAny_call ?_
  k_dflt cell_enter
  k_steps
  (refine' c_push (its := its) ?k1 ?k2 ?k3 ?k4 ?k5 ?k6 rfl ?k8 ?k9 ?ha ?hb (by omega) ?U ?_; (case k1 => k_asm); (case k2 => k_asm); (case k3 => k_asm); (case k4 => k_asm); (case k5 => k_asm); (case k6 => k_asm); (case k8 => ktr_room); (case k9 => ktr_units))
  case ha => k_mem
  case hb => k_mem
  case U => intro tp; k_upd
  intro tp8 h8 tk8 F8 N8 l8
  have l88 := l8
  (try k_lt l8)
  k_steps
  have hq8 : ∀ news', (∀ p ∈ rest, p ∈ news') → (tp8, tupO (.str x u) (.str y v)) ∈ news' → TupsIn news' (its ++ [Value.ref tp8]) (qs ++ [(x, y)]) := fun news' hs hm => (hq.mono hs).snoc hm
  (refine' c_len (its := its ++ [Value.ref tp8]) (qs := qs ++ [(x, y)]) (ps := p1) ?k1 ?k2 ?k3 ?k4 ?k5 ?k6 rfl ?k8 ?k9 ?ha ?hb ?U ?hnw ?G htr ?hq (by omega) ?_; (case k1 => k_asm); (case k2 => k_asm); (case k3 => k_asm); (case k4 => k_asm); (case k5 => k_asm); (case k6 => k_asm); (case k8 => ktr_room); (case k9 => ktr_units))
  case ha => k_mem
  case hb => k_mem
  case U => intro ps'; k_upd
  case hnw => rfl
  case G => exact G
  case hq => exact hq8 _ (fun p hp => by k_mem) (by k_mem)
  intro t7 s7 a7 htr7 F7 N7 G7 ho7
  dsimp only [PySem.W.LenBack] at N7 ⊢
  refine ⟨⟨by omega, by omega⟩, ?_⟩
  k_steps
  rename News h₀ _ _ _ => N9
  have M9 := cb_drop (news := ((f, fmtO fd) :: (fd, fdO hs tkn mw sp ls ac) :: (ls, listOf lines.toArray nl) :: (ac, accO 195 ad (its ++ [Value.ref tp8]).toArray (n1 + 1)) :: (ad, dictOf [⟨h1, .str "_initial_size" t1, .int 0 t0⟩] 1) :: (157, tabO a7) :: (164, tabO p2) :: ((tp8, tupO (.str x u) (.str y v)) :: rest))) N9 (by (intro p hp; (repeat (rcases List.mem_cons.mp hp with rfl | hp; · k_mem)); k_mem)); clear N9
  exact hret _ _ _ _ htr7 (by k_asm) M9 l88 G7 ho7
end

section
local macro_rules | `(tactic| walk_at "pad") => `(tactic| fail)
local macro_rules | `(tactic| walk_at "pad") => `(tactic| fail)
local macro_rules | `(tactic| walk_at "pad") => `(tactic| fail)
local macro_rules | `(tactic| walk_at "pad") => `(tactic| fail)
local macro_rules | `(tactic| walk_at "pad") => `(tactic| fail)
local macro_rules | `(tactic| walk_at "pad") => `(tactic| fail)
local macro_rules | `(tactic| walk_at "pad") => `(tactic| fail)
local macro_rules | `(tactic| walk_at "kK") => `(tactic| assumption)
theorem take_last {α : Type} (its : List α) (y z : α) : (its ++ [y] ++ [z]).take (its.length + 1) = its ++ [y] := by
  rw [show its.length + 1 = (its ++ [y]).length by simp, List.take_left]
theorem drop_last {α : Type} (its : List α) (y z : α) : (its ++ [y] ++ [z]).drop (its.length + 1) = [z] := by
  rw [show its.length + 1 = (its ++ [y]).length by simp, List.drop_left]
theorem at_last {α : Type} (its : List α) (y z : α) {k : Int} (h : k = its.length) : (its ++ [y] ++ [z])[k.toNat]? = some y := by
  subst h; simp
local macro_rules | `(tactic| walk_at "subscriptTail") => `(tactic| (k_here; (with_reducible show wpAny _ _ (subscriptTail _ _ (Value.ref _) (Value.int _ _)) _ _ _); k_dflt (refine' acc_idx ?k1 ?k2 (InstAt_acc ?N ?ha ?hb) ?k3 ?k4 ?k5 ?k6 ?k7 ?k8 ?_ ?k9; (case N => k_asm); (case ha => k_mem); (case hb => k_mem); (case k1 => k_asm); (case k2 => k_asm); (case k3 => k_is); (case k4 => k_is); (case k5 => k_is); (case k6 => omega); (case k7 => omega); (case k8 => exact at_last _ _ _ (by omega)); (case k9 => with_unfolding_all rfl); k_whole)))
local macro_rules | `(tactic| walk_at "exec For") => `(tactic| (k_here; k_dflt (refine For_Z ?_)))
theorem c_appF {f fd ls ac ad : Addr} {t0 t1 : Tok} {h1 : Int} {hs : Nat → Int} {tkn : Nat → Tok} {mw : Int} {sp : Str} {lines its : List Value} {nl n1 : Nat} {p1 p2 : Array Value} {rest : List (Addr × Obj)} {qs : List (Str × Str)} {x y : Str} {u v ua va : Tok} {ay : Addr} {xa : Str}
   (B : Below A₀ base outer h₀) (F : Fr h₀ L s.heap m) (KX : (hd.heap_1 w.params).In h₀) (N : News h₀ L s.heap ((f, fmtO fd) :: (fd, fdO hs tkn mw sp ls ac) :: (ls, listOf lines.toArray nl) :: (ac, accO 195 ad (its ++ [Value.ref ay]).toArray n1) :: (ad, dictOf [⟨h1, .str "_initial_size" t1, .int 0 t0⟩] 1) :: (157, tabO p1) :: (164, tabO p2) :: rest)) (T : TopRead p loose mg mb h₀) (BM : BMain mg h₀) (hk : cs.kind = .function) (hdp : dp + 24 < recursionLimit) (hu : un + 240 < cLine)
   (ord : 164 < fd ∧ fd < f ∧ f < ls ∧ ls < ad ∧ ad < ac) (hr : ∀ p ∈ rest, p.1 ≠ ls ∧ p.1 ≠ ac ∧ p.1 ≠ ad ∧ p.1 ≠ 157 ∧ p.1 ≠ 164) (G : AllBare s.gens) (htr : TriplesOk p1.toList) (htr2 : TriplesOk p2.toList)
   (hq : TupsIn rest its qs) (hy : (ay, tupO (.str xa ua) (.str "." va)) ∈ rest) (hsp : sp = ".") (hfit : lenAll (qs ++ [(xa, (".":Str))] ++ [(x, y)]) < 2 ^ 20) (hgt : mw < lenAll (qs ++ [(xa, (".":Str))] ++ [(x, y)])) (hm0 : 0 ≤ mw) (hsz : its.length < 900) (hln : lines.length < 1000)
   (hfit2 : lenAll (qs ++ [(xa, (".":Str))]) < 2 ^ 20) (hok : JoinOk "" ((qs ++ [(xa, (".":Str))]).map catOf) = true)
   (hret : ∀ s' tp n1' tv t0' nl' a b, TriplesOk a.toList → TriplesOk b.toList → Fr h₀ L s'.heap m → News h₀ L s'.heap ((f, fmtO fd) :: (fd, fdO hs tkn mw sp ls ac) :: (ls, listOf (lines ++ [Value.str (catAll (qs ++ [(xa, (".":Str))])) tv]).toArray nl') :: (ac, accO 195 ad #[Value.ref tp] n1') :: (ad, dictOf [⟨h1, .str "_initial_size" t1, .int 0 t0'⟩] 1) :: (157, tabO a) :: (164, tabO b) :: ((tp, tupO (.str x u) (.str y v)) :: rest)) → (∀ p ∈ ((f, fmtO fd) :: (fd, fdO hs tkn mw sp ls ac) :: (ls, listOf lines.toArray nl) :: (ac, accO 195 ad (its ++ [Value.ref ay]).toArray n1) :: (ad, dictOf [⟨h1, .str "_initial_size" t1, .int 0 t0⟩] 1) :: (157, tabO p1) :: (164, tabO p2) :: rest), p.1 < tp) → AllBare s'.gens → s'.os = s.os → Q .none s') :
   wpAny (model PySem.Challenge.rw_tc0049_01.prog w) (ktrTop dp un gd cn cs L a ccd cl outer) (call (.ref 108) [.ref f, .str x u, .str y v] []) Q E s := by
  subst hsp
  obtain ⟨o1, o2, o3, o4, o5⟩ := ord
  replace o1 := ltN o1; replace o2 := ltN o2; replace o3 := ltN o3; replace o4 := ltN o4; replace o5 := ltN o5
  have q02 := Nat.lt_trans o1 o2
  have q13 := Nat.lt_trans o2 o3
  have q24 := Nat.lt_trans o3 o4
  have q35 := Nat.lt_trans o4 o5
  have q03 := Nat.lt_trans q02 o3
  have q14 := Nat.lt_trans q13 o4
  have q25 := Nat.lt_trans q24 o5
  have q04 := Nat.lt_trans q03 o4
  have q15 := Nat.lt_trans q14 o5
  have q05 := Nat.lt_trans q04 o5
  have z1 : @LT.lt Nat _ 157 fd := Nat.lt_trans (by decide) o1
  have z2 : @LT.lt Nat _ 157 f := Nat.lt_trans (by decide) q02
  have z3 : @LT.lt Nat _ 157 ls := Nat.lt_trans (by decide) q03
  have z4 : @LT.lt Nat _ 157 ad := Nat.lt_trans (by decide) q04
  have z5 : @LT.lt Nat _ 157 ac := Nat.lt_trans (by decide) q05
  have r1 : ∀ p ∈ rest, p.1 ≠ ls := fun p hp => (hr p hp).1
  have r2 : ∀ p ∈ rest, p.1 ≠ ac := fun p hp => (hr p hp).2.1
  have r3 : ∀ p ∈ rest, p.1 ≠ ad := fun p hp => (hr p hp).2.2.1
  have r4 : ∀ p ∈ rest, p.1 ≠ 157 := fun p hp => (hr p hp).2.2.2.1
  have r5 : ∀ p ∈ rest, p.1 ≠ 164 := fun p hp => (hr p hp).2.2.2.2
  have hp0 := lenAll_nonneg (qs ++ [(xa, (".":Str))] ++ [(x, y)])
  revert KX; k_fill; intro KX; refine wpAny_call ?_
  k_dflt cell_enter
  k_steps
  (refine' c_push (its := its ++ [Value.ref ay]) ?k1 ?k2 ?k3 ?k4 ?k5 ?k6 rfl ?k8 ?k9 ?ha ?hb (by simp; omega) ?U ?_; (case k1 => k_asm); (case k2 => k_asm); (case k3 => k_asm); (case k4 => k_asm); (case k5 => k_asm); (case k6 => k_asm); (case k8 => ktr_room); (case k9 => ktr_units))
  case ha => k_mem
  case hb => k_mem
  case U => intro tp; k_upd
  intro tp8 h8 tk8 F8 N8 l8
  have l88 := l8
  (try k_lt l8)
  k_steps
  have hq8 : ∀ news', (∀ p ∈ rest, p ∈ news') → (tp8, tupO (.str x u) (.str y v)) ∈ news' → TupsIn news' (its ++ [Value.ref ay] ++ [Value.ref tp8]) (qs ++ [(xa, (".":Str))] ++ [(x, y)]) := fun news' hs hm => ((hq.mono hs).snoc (hs _ hy)).snoc hm
  (refine' c_len (its := its ++ [Value.ref ay] ++ [Value.ref tp8]) (qs := qs ++ [(xa, (".":Str))] ++ [(x, y)]) (ps := p1) ?k1 ?k2 ?k3 ?k4 ?k5 ?k6 rfl ?k8 ?k9 ?ha ?hb ?U ?hnw ?G htr ?hq (by omega) ?_; (case k1 => k_asm); (case k2 => k_asm); (case k3 => k_asm); (case k4 => k_asm); (case k5 => k_asm); (case k6 => k_asm); (case k8 => ktr_room); (case k9 => ktr_units))
  case ha => k_mem
  case hb => k_mem
  case U => intro ps'; k_upd
  case hnw => rfl
  case G => exact G
  case hq => exact hq8 _ (fun p hp => by k_mem) (by k_mem)
  intro t7 s7 a7 htr7 F7 N7 G7 ho7
  dsimp only [PySem.W.LenBack] at N7 ⊢
  refine ⟨⟨by omega, by omega⟩, ?_⟩
  k_steps
  refine' iterZ_str1 (c := 46) ?k1 ?k2 ?k3 ?k4 ?k5 ?k6 ?_
  case k1 => kernel_rfl
  case k2 => kernel_rfl
  case k3 => rfl
  case k4 => rfl
  case k5 => k_asm
  case k6 => k_asm
  intro t6 h6 tk6 F6 N6
  try dsimp only
  k_steps
  show wpAny _ _ (call (.ref _) [.ref _]) _ _ _
  (refine' c_count (its := its ++ [Value.ref ay] ++ [Value.ref tp8]) ?k1 ?k2 ?k3 ?k4 ?k5 ?k6 rfl ?k8 ?k9 ?ha ?hb ?_; (case k1 => k_asm); (case k2 => k_asm); (case k3 => k_asm); (case k4 => k_asm); (case k5 => k_asm); (case k6 => k_asm); (case k8 => ktr_room); (case k9 => ktr_units))
  case ha => k_mem
  case hb => k_mem
  intro t5 h5 tk5 F5 N5
  rw [show (((its ++ [Value.ref ay] ++ [Value.ref tp8]).length : Nat) : Int) = ((its.length + 2 : Nat) : Int) by simp]
  k_steps
  rename IsRange _ _ _ _ _ _ _ _ => hR
  refine' iterZ_down1 hR (down_small ?k1 ?k2) ?kp ?k3 ?k4 ?k5 ?k6 ?_
  case k1 => omega
  case k2 => omega
  case kp => rw [down_size (by omega)]; omega
  case k3 => rfl
  case k4 => rfl
  case k5 => k_asm
  case k6 => k_asm
  intro t4 h4 tk4 F4 N4
  try dsimp only
  rw [show ((its.length + 2 : Nat) : Int) - 1 = ((its.length + 1 : Nat) : Int) by omega] at *
  k_steps
  dsimp only [FirstPost]
  k_steps
  dsimp only [FirstPost]
  k_steps
  (refine' c_popf (its := its ++ [Value.ref ay] ++ [Value.ref tp8]) (k := its.length + 1) ?k1 ?k2 ?k3 ?k4 ?k5 ?k6 rfl ?k8 ?k9 ?ha ?hb rfl (by simp) (by simp; omega) ?U ?_; (case k1 => k_asm); (case k2 => k_asm); (case k3 => k_asm); (case k4 => k_asm); (case k5 => k_asm); (case k6 => k_asm); (case k8 => ktr_room); (case k9 => ktr_units))
  case ha => k_mem
  case hb => k_mem
  case U => k_upd
  intro l3 h3 tk3 F3 N3 l33
  have hal := l33 (ac, _) (by k_mem)
  have htl := l33 (tp8, _) (by k_mem)
  (try k_lt l33)
  rw [take_last, drop_last] at N3
  k_steps
  have hsl : (qs ++ [(xa, (".":Str))]).length < 1000 := by rw [List.length_append, ← hq.len]; simp; omega
  have hqq : ∀ news', (∀ p ∈ rest, p ∈ news') → TupsIn news' (its ++ [Value.ref ay]) (qs ++ [(xa, (".":Str))]) := fun news' hs => (hq.mono hs).snoc (hs _ hy)
  rename News _ _ _ _ => N33
  have M3 := cb_drop (news := ((f, fmtO fd) :: (fd, fdO hs tkn mw (".":Str) ls ac) :: (ls, listOf lines.toArray nl) :: (ac, accO 195 ad (its ++ [Value.ref ay]).toArray (n1 + 1 + 1)) :: (ad, dictOf [⟨h1, .str "_initial_size" t1, .int 0 t0⟩] 1) :: (157, tabO a7) :: (164, tabO p2) :: ((l3, listOf [Value.ref tp8].toArray 0) :: (tp8, tupO (.str x u) (.str y v)) :: rest))) N33 (by (intro p hp; (repeat (rcases List.mem_cons.mp hp with rfl | hp; · k_mem)); k_mem)); clear N33
  (refine' c_str (its := its ++ [Value.ref ay]) (qs := qs ++ [(xa, (".":Str))]) (ps := p2) (nw := fun b => ((f, fmtO fd) :: (fd, fdO hs tkn mw (".":Str) ls ac) :: (ls, listOf lines.toArray nl) :: (ac, accO 195 ad (its ++ [Value.ref ay]).toArray (n1 + 1 + 1)) :: (ad, dictOf [⟨h1, .str "_initial_size" t1, .int 0 t0⟩] 1) :: (157, tabO a7) :: (164, tabO b) :: ((l3, listOf [Value.ref tp8].toArray 0) :: (tp8, tupO (.str x u) (.str y v)) :: rest))) ?k1 ?k2 ?k3 ?k4 ?k5 ?k6 rfl ?k8 ?k9 ?ha ?hb ?U rfl ?G htr2 ?hq hfit2 hok hsl ?_; (case k1 => k_asm); (case k2 => k_asm); (case k3 => k_asm); (case k4 => k_asm); (case k5 => k_asm); (case k6 => k_asm); (case k8 => ktr_room); (case k9 => ktr_units))
  case ha => k_mem
  case hb => k_mem
  case U => intro b; k_upd
  case G => exact G7
  case hq => exact hqq _ (fun p hp => by k_mem)
  intro t5' s5 b5 htr5 F5' N5' G5 ho5
  dsimp only [PySem.W.StrBack]
  try dsimp only at N5'
  k_steps
  rename News _ _ _ _ => N4'
  have M4 := cb_drop (news := ((f, fmtO fd) :: (fd, fdO hs tkn mw (".":Str) ls ac) :: (ls, listOf (lines.toArray.push (Value.str (catAll (qs ++ [(xa, (".":Str))])) t5')) (nl + 1)) :: (ac, accO 195 ad (its ++ [Value.ref ay]).toArray (n1 + 1 + 1)) :: (ad, dictOf [⟨h1, .str "_initial_size" t1, .int 0 t0⟩] 1) :: (157, tabO a7) :: (164, tabO b5) :: ((l3, listOf [Value.ref tp8].toArray 0) :: (tp8, tupO (.str x u) (.str y v)) :: rest))) N4' (by (intro p hp; (repeat (rcases List.mem_cons.mp hp with rfl | hp; · k_mem)); k_mem)); clear N4'
  (refine' c_reset (its := its ++ [Value.ref ay]) (new := [Value.ref tp8]) (l := l3) (n' := if [Value.ref tp8].length = (its ++ [Value.ref ay]).length then n1 + 1 + 1 else n1 + 1 + 1 + 1) (nw := fun t9 => ((f, fmtO fd) :: (fd, fdO hs tkn mw (".":Str) ls ac) :: (ls, listOf (lines.toArray.push (Value.str (catAll (qs ++ [(xa, (".":Str))])) t5')) (nl + 1)) :: (ac, accO 195 ad #[Value.ref tp8] (if [Value.ref tp8].length = (its ++ [Value.ref ay]).length then n1 + 1 + 1 else n1 + 1 + 1 + 1)) :: (ad, dictOf [⟨h1, .str "_initial_size" t1, .int 0 t9⟩] 1) :: (157, tabO a7) :: (164, tabO b5) :: ((l3, listOf [Value.ref tp8].toArray 0) :: (tp8, tupO (.str x u) (.str y v)) :: rest))) ?k1 ?k2 ?k3 ?k4 ?k5 ?k6 rfl ?k8 ?k9 ?ha ?hb ?hl (Nat.ne_of_lt hal) (by simp; omega) rfl ?U ?ha2 ?hb2 ?U2 ?_; (case k1 => k_asm); (case k2 => k_asm); (case k3 => k_asm); (case k4 => k_asm); (case k5 => k_asm); (case k6 => k_asm); (case k8 => ktr_room); (case k9 => ktr_units))
  case ha => k_mem
  case hb => k_mem
  case hl => k_mem
  case U => k_upd
  case ha2 => k_mem
  case hb2 => k_mem
  case U2 => intro t9; k_upd
  intro t3' h3' tk3' F3' N3'
  try dsimp only at N3'
  k_steps
  rename News h₀ _ _ _ => N2'
  simp only [List.push_toArray] at N2'
  have M2 := cb_drop (news := ((f, fmtO fd) :: (fd, fdO hs tkn mw (".":Str) ls ac) :: (ls, listOf (lines ++ [Value.str (catAll (qs ++ [(xa, (".":Str))])) t5']).toArray (nl + 1)) :: (ac, accO 195 ad #[Value.ref tp8] (if [Value.ref tp8].length = (its ++ [Value.ref ay]).length then n1 + 1 + 1 else n1 + 1 + 1 + 1)) :: (ad, dictOf [⟨h1, .str "_initial_size" t1, .int 0 t3'⟩] 1) :: (157, tabO a7) :: (164, tabO b5) :: ((tp8, tupO (.str x u) (.str y v)) :: rest))) N2' (by (intro p hp; (repeat (rcases List.mem_cons.mp hp with rfl | hp; · k_mem)); k_mem)); clear N2'
  exact hret _ _ _ _ _ _ _ _ htr7 htr5 (by k_asm) M2 l88 G5 (ho5.trans ho7)
end

section
local macro_rules | `(tactic| walk_at "pad") => `(tactic| fail)
local macro_rules | `(tactic| walk_at "pad") => `(tactic| fail)
local macro_rules | `(tactic| walk_at "pad") => `(tactic| fail)
local macro_rules | `(tactic| walk_at "pad") => `(tactic| fail)
local macro_rules | `(tactic| walk_at "pad") => `(tactic| fail)
local macro_rules | `(tactic| walk_at "pad") => `(tactic| fail)
local macro_rules | `(tactic| walk_at "pad") => `(tactic| fail)
local macro_rules | `(tactic| walk_at "pad") => `(tactic| fail)
local macro_rules | `(tactic| walk_at "kK") => `(tactic| assumption)
theorem c_newline0 {f fd ls ac ad : Addr} {t0 t1 : Tok} {h1 : Int} {hs : Nat → Int} {tkn : Nat → Tok} {mw : Int} {sp : Str} {lines its : List Value} {nl n1 : Nat} {p1 p2 : Array Value} {rest : List (Addr × Obj)} {qs : List (Str × Str)}
   (B : Below A₀ base outer h₀) (F : Fr h₀ L s.heap m) (KX : (hd.heap_1 w.params).In h₀) (N : News h₀ L s.heap ((f, fmtO fd) :: (fd, fdO hs tkn mw sp ls ac) :: (ls, listOf lines.toArray nl) :: (ac, accO 195 ad #[] n1) :: (ad, dictOf [⟨h1, .str "_initial_size" t1, .int 0 t0⟩] 1) :: (157, tabO p1) :: (164, tabO p2) :: rest)) (T : TopRead p loose mg mb h₀) (BM : BMain mg h₀) (hk : cs.kind = .function) (hdp : dp + 24 < recursionLimit) (hu : un + 240 < cLine)
   (ord : 164 < fd ∧ fd < f ∧ f < ls ∧ ls < ad ∧ ad < ac) (hr : ∀ p ∈ rest, p.1 ≠ ls ∧ p.1 ≠ ac ∧ p.1 ≠ ad ∧ p.1 ≠ 157 ∧ p.1 ≠ 164) (G : AllBare s.gens) (htr : TriplesOk p1.toList)
   (hret : ∀ s' t0' n1' a, TriplesOk a.toList → Fr h₀ L s'.heap m → News h₀ L s'.heap ((f, fmtO fd) :: (fd, fdO hs tkn mw sp ls ac) :: (ls, listOf lines.toArray nl) :: (ac, accO 195 ad #[] n1') :: (ad, dictOf [⟨h1, .str "_initial_size" t1, .int 0 t0'⟩] 1) :: (157, tabO a) :: (164, tabO p2) :: rest) → AllBare s'.gens → s'.os = s.os → Q .none s') :
   wpAny (model PySem.Challenge.rw_tc0049_01.prog w) (ktrTop dp un gd cn cs L a ccd cl outer) (call (.ref 73) [.ref f] []) Q E s := by
  obtain ⟨o1, o2, o3, o4, o5⟩ := ord
  replace o1 := ltN o1; replace o2 := ltN o2; replace o3 := ltN o3; replace o4 := ltN o4; replace o5 := ltN o5
  have q02 := Nat.lt_trans o1 o2
  have q13 := Nat.lt_trans o2 o3
  have q24 := Nat.lt_trans o3 o4
  have q35 := Nat.lt_trans o4 o5
  have q03 := Nat.lt_trans q02 o3
  have q14 := Nat.lt_trans q13 o4
  have q25 := Nat.lt_trans q24 o5
  have q04 := Nat.lt_trans q03 o4
  have q15 := Nat.lt_trans q14 o5
  have q05 := Nat.lt_trans q04 o5
  have z1 : @LT.lt Nat _ 157 fd := Nat.lt_trans (by decide) o1
  have z2 : @LT.lt Nat _ 157 f := Nat.lt_trans (by decide) q02
  have z3 : @LT.lt Nat _ 157 ls := Nat.lt_trans (by decide) q03
  have z4 : @LT.lt Nat _ 157 ad := Nat.lt_trans (by decide) q04
  have z5 : @LT.lt Nat _ 157 ac := Nat.lt_trans (by decide) q05
  have r1 : ∀ p ∈ rest, p.1 ≠ ls := fun p hp => (hr p hp).1
  have r2 : ∀ p ∈ rest, p.1 ≠ ac := fun p hp => (hr p hp).2.1
  have r3 : ∀ p ∈ rest, p.1 ≠ ad := fun p hp => (hr p hp).2.2.1
  have r4 : ∀ p ∈ rest, p.1 ≠ 157 := fun p hp => (hr p hp).2.2.2.1
  have r5 : ∀ p ∈ rest, p.1 ≠ 164 := fun p hp => (hr p hp).2.2.2.2
  revert KX; k_fill; intro KX; refine wpAny_call ?_
  k_dflt cell_enter
  k_steps
  (refine' c_pop0 (n1 := n1) ?k1 ?k2 ?k3 ?k4 ?k5 ?k6 rfl ?k8 ?k9 ?ha ?hb ?_; (case k1 => k_asm); (case k2 => k_asm); (case k3 => k_asm); (case k4 => k_asm); (case k5 => k_asm); (case k6 => k_asm); (case k8 => ktr_room); (case k9 => ktr_units))
  case ha => k_mem
  case hb => k_mem
  intro l9 u9 v9 h9 tk9 F9 N9 l99
  (try k_lt l99)
  k_steps
  refine' call_meth ?N ?q ?_
  case N => k_asm
  case q => k_mem
  (refine' c_pushC (its := []) ?k1 ?k2 ?k3 ?k4 ?k5 ?k6 rfl ?k8 ?k9 ?ha ?hb (by simp) ?U ?_; (case k1 => k_asm); (case k2 => k_asm); (case k3 => k_asm); (case k4 => k_asm); (case k5 => k_asm); (case k6 => k_asm); (case k8 => ktr_room); (case k9 => ktr_units))
  case ha => k_mem
  case hb => k_mem
  case U => intro tp; k_upd
  intro tp8 h8 tk8 F8 N8 l8
  (try k_lt l8)
  k_steps
  have hq8 : ∀ news', (tp8, tupO (.str "" u9) (.str "" v9)) ∈ news' → TupsIn news' ([] ++ [Value.ref tp8]) ([] ++ [(("":Str), ("":Str))]) := fun news' hm => (TupsIn.nil).snoc (q := (("":Str), ("":Str))) hm
  have e0 : lenAll ([] ++ [(("":Str), ("":Str))]) = 0 := by decide +kernel
  (refine' c_len (its := [] ++ [Value.ref tp8]) (qs := [] ++ [(("":Str), ("":Str))]) (ps := p1) ?k1 ?k2 ?k3 ?k4 ?k5 ?k6 rfl ?k8 ?k9 ?ha ?hb ?U ?hnw ?G htr ?hq (by rw [e0]; decide) ?_; (case k1 => k_asm); (case k2 => k_asm); (case k3 => k_asm); (case k4 => k_asm); (case k5 => k_asm); (case k6 => k_asm); (case k8 => ktr_room); (case k9 => ktr_units))
  case ha => k_mem
  case hb => k_mem
  case U => intro ps'; k_upd
  case hnw => rfl
  case G => exact G
  case hq => exact hq8 _ (by k_mem)
  intro t7 s7 a7 htr7 F7 N7 G7 ho7
  rw [e0]
  dsimp only [PySem.W.LenBack] at N7 ⊢
  refine ⟨⟨by omega, by omega⟩, ?_⟩
  k_steps
  rename News _ _ _ _ => N6
  have M6 := cb_drop (news := ((f, fmtO fd) :: (fd, fdO hs tkn mw sp ls ac) :: (ls, listOf lines.toArray nl) :: (ac, accO 195 ad ([] ++ [Value.ref tp8]).toArray (n1 + 1)) :: (ad, dictOf [⟨h1, .str "_initial_size" t1, .int 0 t0⟩] 1) :: (157, tabO a7) :: (164, tabO p2) :: rest)) N6 (by (intro p hp; (repeat (rcases List.mem_cons.mp hp with rfl | hp; · k_mem)); k_mem)); clear N6
  (refine' c_reset0 (its := [] ++ [Value.ref tp8]) (n' := n1 + 1 + 1) (nw := fun t9 => ((f, fmtO fd) :: (fd, fdO hs tkn mw sp ls ac) :: (ls, listOf lines.toArray nl) :: (ac, accO 195 ad #[] (n1 + 1 + 1)) :: (ad, dictOf [⟨h1, .str "_initial_size" t1, .int 0 t9⟩] 1) :: (157, tabO a7) :: (164, tabO p2) :: rest)) ?k1 ?k2 ?k3 ?k4 ?k5 ?k6 rfl ?k8 ?k9 ?ha ?hb (by simp) (by rw [if_neg (by simp)]) ?U ?ha2 ?hb2 ?U2 ?_; (case k1 => k_asm); (case k2 => k_asm); (case k3 => k_asm); (case k4 => k_asm); (case k5 => k_asm); (case k6 => k_asm); (case k8 => ktr_room); (case k9 => ktr_units))
  case ha => k_mem
  case hb => k_mem
  case U => k_upd
  case ha2 => k_mem
  case hb2 => k_mem
  case U2 => intro t9; k_upd
  intro t3 l3 h3 tk3 F3 N3 l33
  try dsimp only at N3
  k_steps
  rename News h₀ _ _ _ => N2
  exact hret _ _ _ _ htr7 (by k_asm) N2 G7 ho7
end

section
local macro_rules | `(tactic| walk_at "pad") => `(tactic| fail)
local macro_rules | `(tactic| walk_at "pad") => `(tactic| fail)
local macro_rules | `(tactic| walk_at "pad") => `(tactic| fail)
local macro_rules | `(tactic| walk_at "pad") => `(tactic| fail)
local macro_rules | `(tactic| walk_at "pad") => `(tactic| fail)
local macro_rules | `(tactic| walk_at "pad") => `(tactic| fail)
local macro_rules | `(tactic| walk_at "pad") => `(tactic| fail)
local macro_rules | `(tactic| walk_at "pad") => `(tactic| fail)
local macro_rules | `(tactic| walk_at "pad") => `(tactic| fail)
local macro_rules | `(tactic| walk_at "pad") => `(tactic| fail)
local macro_rules | `(tactic| walk_at "kK") => `(tactic| assumption)
theorem strs_snoc : ∀ {vs : List Value} {ss : List Str} {y : Str} {t : Tok}, StrsAre vs ss → StrsAre (vs ++ [.str y t]) (ss ++ [y])
  | _, _, _, _, .nil => .cons _ _ .nil
  | _, _, _, _, .cons x t h => .cons x t (strs_snoc h)
theorem c_strA {f fd ls ac ad : Addr} {t0 t1 : Tok} {h1 : Int} {hs : Nat → Int} {tkn : Nat → Tok} {mw : Int} {sp : Str} {lines its : List Value} {nl n1 : Nat} {p1 p2 : Array Value} {rest : List (Addr × Obj)} {qs : List (Str × Str)} {ay : Addr} {u v : Tok} {q : Str × Str} {sep : Str} {st : Tok} {txs : List Str}
   (B : Below A₀ base outer h₀) (F : Fr h₀ L s.heap m) (KX : (hd.heap_1 w.params).In h₀) (N : News h₀ L s.heap ((f, fmtO fd) :: (fd, fdO hs tkn mw sp ls ac) :: (ls, listOf lines.toArray nl) :: (ac, accO 195 ad (its ++ [Value.ref ay]).toArray n1) :: (ad, dictOf [⟨h1, .str "_initial_size" t1, .int 0 t0⟩] 1) :: (157, tabO p1) :: (164, tabO p2) :: rest)) (T : TopRead p loose mg mb h₀) (BM : BMain mg h₀) (hk : cs.kind = .function) (hdp : dp + 28 < recursionLimit) (hu : un + 280 < cLine)
   (ord : 164 < fd ∧ fd < f ∧ f < ls ∧ ls < ad ∧ ad < ac) (hr : ∀ p ∈ rest, p.1 ≠ ls ∧ p.1 ≠ ac ∧ p.1 ≠ ad ∧ p.1 ≠ 157 ∧ p.1 ≠ 164) (G : AllBare s.gens) (htr : TriplesOk p1.toList) (htr2 : TriplesOk p2.toList)
   (hq : TupsIn rest its qs) (hy : (ay, tupO (.str q.1 u) (.str q.2 v)) ∈ rest) (hqo : PyData.strOk q.1 = true ∧ PyData.strOk q.2 = true) (hns : ¬ (q.1 = " " ∧ q.2 = "")) (hfit : lenAll (qs ++ [q]) < 2 ^ 20) (hpos : 0 < lenAll (qs ++ [q])) (hok : JoinOk "" ((qs ++ [q]).map catOf) = true) (hsz : its.length < 900)
   (hsp : Txt.isspace (catAll (qs ++ [q])) = false) (hln : lines.length < 1000) (htx : StrsAre lines txs)
   (hjo : ((txs ++ [catAll (qs ++ [q])]).map (·.length)).sum + (txs ++ [catAll (qs ++ [q])]).length * sep.length ≤ 16777216)
   (hret : ∀ s' t' lines' t0' nl' n1' a b, TriplesOk a.toList → TriplesOk b.toList → Fr h₀ L s'.heap m → News h₀ L s'.heap ((f, fmtO fd) :: (fd, fdO hs tkn mw sp ls ac) :: (ls, listOf lines' nl') :: (ac, accO 195 ad #[] n1') :: (ad, dictOf [⟨h1, .str "_initial_size" t1, .int 0 t0'⟩] 1) :: (157, tabO a) :: (164, tabO b) :: rest) → AllBare s'.gens → s'.os = s.os → Q (.str (Txt.join sep (txs ++ [catAll (qs ++ [q])])) t') s') :
   wpAny (model PySem.Challenge.rw_tc0049_01.prog w) (ktrTop dp un gd cn cs L a ccd cl outer) (call (.ref 59) [.ref f, .str sep st] []) Q E s := by
  revert KX; k_fill; intro KX; refine wpAny_call ?_
  k_dflt cell_enter
  k_steps
  (refine' c_newline (ls := ls) (ac := ac) (lines := lines) (its := its) (qs := qs) (q := q) (ay := ay) (u := u) (v := v) ?k1 ?k2 ?k3 ?k4 ?k5 ?k6 rfl ?k8 ?k9 ord hr G htr htr2 hq hy hqo hns hfit hpos hok hsz hsp hln ?_; (case k1 => k_asm); (case k2 => k_asm); (case k3 => k_asm); (case k4 => k_asm); (case k5 => k_asm); (case k6 => k_asm); (case k8 => ktr_room); (case k9 => ktr_units))
  intro s9 tv9 t9 nl9 n9 a9 b9 htr9 htr99 F9 N9 G9 ho9
  k_steps
  refine' join_list (D := ls) (items := (lines ++ [Value.str (catAll (qs ++ [q])) tv9]).toArray) ?k1 ?k2 hjo ?_
  case k1 => exact ⟨_, (N9 (ls, _) (by k_mem)).1, rfl, _, rfl⟩
  case k2 => exact strs_snoc htx
  intro t8 k8
  k_steps
  rename News h₀ _ _ _ => N7
  exact hret _ _ _ _ _ _ _ _ htr9 htr99 (by k_asm) N7 G9 ho9
theorem c_strB {f fd ls ac ad : Addr} {t0 t1 : Tok} {h1 : Int} {hs : Nat → Int} {tkn : Nat → Tok} {mw : Int} {sp : Str} {lines its : List Value} {nl n1 : Nat} {p1 p2 : Array Value} {rest : List (Addr × Obj)} {qs : List (Str × Str)} {sep : Str} {st : Tok} {txs : List Str}
   (B : Below A₀ base outer h₀) (F : Fr h₀ L s.heap m) (KX : (hd.heap_1 w.params).In h₀) (N : News h₀ L s.heap ((f, fmtO fd) :: (fd, fdO hs tkn mw sp ls ac) :: (ls, listOf lines.toArray nl) :: (ac, accO 195 ad #[] n1) :: (ad, dictOf [⟨h1, .str "_initial_size" t1, .int 0 t0⟩] 1) :: (157, tabO p1) :: (164, tabO p2) :: rest)) (T : TopRead p loose mg mb h₀) (BM : BMain mg h₀) (hk : cs.kind = .function) (hdp : dp + 28 < recursionLimit) (hu : un + 280 < cLine)
   (ord : 164 < fd ∧ fd < f ∧ f < ls ∧ ls < ad ∧ ad < ac) (hr : ∀ p ∈ rest, p.1 ≠ ls ∧ p.1 ≠ ac ∧ p.1 ≠ ad ∧ p.1 ≠ 157 ∧ p.1 ≠ 164) (G : AllBare s.gens) (htr : TriplesOk p1.toList) (htr2 : TriplesOk p2.toList) (htx : StrsAre lines txs)
   (hjo : (txs.map (·.length)).sum + txs.length * sep.length ≤ 16777216)
   (hret : ∀ s' t' lines' t0' nl' n1' a b, TriplesOk a.toList → TriplesOk b.toList → Fr h₀ L s'.heap m → News h₀ L s'.heap ((f, fmtO fd) :: (fd, fdO hs tkn mw sp ls ac) :: (ls, listOf lines' nl') :: (ac, accO 195 ad #[] n1') :: (ad, dictOf [⟨h1, .str "_initial_size" t1, .int 0 t0'⟩] 1) :: (157, tabO a) :: (164, tabO b) :: rest) → AllBare s'.gens → s'.os = s.os → Q (.str (Txt.join sep txs) t') s') :
   wpAny (model PySem.Challenge.rw_tc0049_01.prog w) (ktrTop dp un gd cn cs L a ccd cl outer) (call (.ref 59) [.ref f, .str sep st] []) Q E s := by
  revert KX; k_fill; intro KX; refine wpAny_call ?_
  k_dflt cell_enter
  k_steps
  (refine' c_newline0 (ls := ls) (ac := ac) (lines := lines) ?k1 ?k2 ?k3 ?k4 ?k5 ?k6 rfl ?k8 ?k9 ord hr G htr ?_; (case k1 => k_asm); (case k2 => k_asm); (case k3 => k_asm); (case k4 => k_asm); (case k5 => k_asm); (case k6 => k_asm); (case k8 => ktr_room); (case k9 => ktr_units))
  case _ => exact its
  case _ => exact qs
  intro s9 t9 n9 a9 htr9 F9 N9 G9 ho9
  k_steps
  refine' join_list (D := ls) (items := lines.toArray) ?k1 ?k2 hjo ?_
  case k1 => exact ⟨_, (N9 (ls, _) (by k_mem)).1, rfl, _, rfl⟩
  case k2 => exact htx
  intro t8 k8
  k_steps
  rename News h₀ _ _ _ => N7
  exact hret _ _ _ _ _ _ _ _ htr9 htr2 (by k_asm) N7 G9 ho9
end

section
local macro_rules | `(tactic| walk_at "pad") => `(tactic| fail)
local macro_rules | `(tactic| walk_at "pad") => `(tactic| fail)
local macro_rules | `(tactic| walk_at "pad") => `(tactic| fail)
local macro_rules | `(tactic| walk_at "pad") => `(tactic| fail)
local macro_rules | `(tactic| walk_at "pad") => `(tactic| fail)
local macro_rules | `(tactic| walk_at "pad") => `(tactic| fail)
local macro_rules | `(tactic| walk_at "pad") => `(tactic| fail)
local macro_rules | `(tactic| walk_at "pad") => `(tactic| fail)
local macro_rules | `(tactic| walk_at "pad") => `(tactic| fail)
local macro_rules | `(tactic| walk_at "pad") => `(tactic| fail)
local macro_rules | `(tactic| walk_at "kK") => `(tactic| first | assumption | exact rfl)
local macro_rules | `(tactic| walk_at "wpAt") => `(tactic| (ks_step "exec Expr"; k_dflt (refine ks_wpAt_Expr_any ?_)))
theorem makes195 (w : World) : makesL (hd.heap_1 w.params) 195 = true := by kernel_rfl
local macro_rules | `(tactic| walk_at "call ref") => `(tactic| (k_here; k_dflt (refine' call_cls (C := 111) ?k1 ?k2 ?k3 ?k4 ?k5 ?k6 ?_; (case k1 => k_asm); (case k2 => k_asm); (case k3 => k_asm); (case k4 => k_is); (case k5 => k_is); (case k6 => k_is); k_whole; intro x' d' h' F' N' l1 l2; (try k_lt l1); (try k_lt2 l2); cell_enter)))
local macro_rules | `(tactic| walk_at "call ref") => `(tactic| (k_here; k_dflt (refine' call_accC (C := 195) ?k1 ?k2 ?k3 ?k4 ?k5 ?k6 ?_; (case k1 => k_asm); (case k2 => k_asm); (case k3 => k_asm); (case k4 => exact makes195 _); (case k5 => k_is); (case k6 => k_is); k_whole; intro x' d' h' F' N' l1 l2; (try k_lt l1); (try k_lt2 l2))))
noncomputable abbrev pick6 {α : Type} (a b c d e f : α) (i : Nat) : α := match i with | 1 => a | 2 => b | 3 => c | 4 => d | 5 => e | _ => f
noncomputable abbrev pick10 {α : Type} (a b c d e f g h i j : α) (k : Nat) : α := match k with | 1 => a | 2 => b | 3 => c | 4 => d | 5 => e | 6 => f | 7 => g | 8 => h | 9 => i | _ => j
theorem make_end {h₀ h : Heap} {L : Addr} {A B C D E F G : Addr × Obj} {news : List (Addr × Obj)} (N : News h₀ L h (A :: B :: C :: D :: E :: F :: G :: news)) : News h₀ L h (F :: G :: E :: C :: D :: news) := fun p hp => N p (by
  simp only [List.mem_cons] at hp ⊢
  rcases hp with h | h | h | h | h | h <;> simp [h])
theorem c_make {t1 t2 t3 t4 : Tok} {mw : Int} {sp : Str}
   (B : Below A₀ base outer h₀) (F : Fr h₀ L s.heap m) (KX : (hd.heap_1 w.params).In h₀) (N : News h₀ L s.heap news) (T : TopRead p loose mg mb h₀) (BM : BMain mg h₀) (hk : cs.kind = .function) (hdp : dp + 30 < recursionLimit) (hu : un + 300 < cLine)
   (hret : ∀ f fd ls ac ad hs tkn h1 t0 t1 h' tk', (∀ p ∈ news, p.1 < fd) → fd < f → f < ls → ls < ad → ad < ac → Fr h₀ L h' m →
      News h₀ L h' ((f, fmtO fd) :: (fd, fdO hs tkn mw sp ls ac) :: (ls, listOf [].toArray 0) :: (ac, accO 195 ad #[] 0) :: (ad, dictOf [⟨h1, .str "_initial_size" t1, .int 0 t0⟩] 1) :: news) → Q (.ref f) { s with heap := h', toks := tk' }) :
   wpAny (model PySem.Challenge.rw_tc0049_01.prog w) (ktrTop dp un gd cn cs L a ccd cl outer) (call (.ref 111) [.int 0 t1, .int mw t2, .str " " t3, .str sp t4] []) Q E s := by
  revert KX; k_fill; intro KX
  k_steps
  k_dflt ks_enter
  k_steps
  rename News _ _ _ _ => N9
  refine' acc_setA ?k1 ?k2 N9 (InstAt_acc N9 ?ha ?hb) rfl ?k6 ?k7 ?k8 ?k9 ?k10 ?k11 ?k12 ?k13 ?_
  case ha => k_mem
  case hb => k_mem
  case k1 => k_asm
  case k2 => k_asm
  case k6 => k_is
  case k7 => exact lo195 w
  case k8 => k_is
  case k9 => k_is
  case k10 => k_get
  case k11 => k_put
  case k12 => k_upd
  case k13 => exact Nat.le_of_ble_eq_true rfl
  intro h8 F8 N8
  k_steps
  show wpAny _ _ (call (.ref _) []) _ _ _
  rename News _ _ _ _ => N7
  refine' call_binit0 ?k1 N7 ?q ?U ?_
  case k1 => k_asm
  case q => k_mem
  case U => k_mem
  intro h6 F6 N6
  k_steps
  rename News h₀ _ _ _ => N5
  have M5 : News h₀ L _ (_ :: _ :: (_, accO 195 _ #[] 0) :: (_, dictOf [⟨_, .str "_initial_size" _, .int 0 _⟩] 1) :: (_, listOf [].toArray 0) :: (_, fmtO _) :: (_, fdO (pick6 _ _ _ _ _ _) (pick10 _ _ _ _ _ _ _ _ _ _) mw sp _ _) :: news) := N5
  refine' hret _ _ _ _ _ _ _ _ _ _ _ _ ?g1 ?g2 ?g3 ?g4 ?g5 ?g6 (make_end M5)
  case g1 => assumption
  case g2 => assumption
  case g3 => exact (show @LT.lt Nat _ _ _ by omega)
  case g4 => exact (show @LT.lt Nat _ _ _ by omega)
  case g5 => assumption
  case g6 => k_asm
end

section
local macro_rules | `(tactic| walk_at "pad") => `(tactic| fail)
local macro_rules | `(tactic| walk_at "pad") => `(tactic| fail)
local macro_rules | `(tactic| walk_at "pad") => `(tactic| fail)
local macro_rules | `(tactic| walk_at "pad") => `(tactic| fail)
local macro_rules | `(tactic| walk_at "pad") => `(tactic| fail)
local macro_rules | `(tactic| walk_at "pad") => `(tactic| fail)
local macro_rules | `(tactic| walk_at "pad") => `(tactic| fail)
local macro_rules | `(tactic| walk_at "pad") => `(tactic| fail)
local macro_rules | `(tactic| walk_at "pad") => `(tactic| fail)
local macro_rules | `(tactic| walk_at "pad") => `(tactic| fail)
local macro_rules | `(tactic| walk_at "pad") => `(tactic| fail)
local macro_rules | `(tactic| walk_at "pad") => `(tactic| fail)
local macro_rules | `(tactic| walk_at "kK") => `(tactic| first | assumption | exact rfl)
noncomputable def codeDot : Array Nat := #[14, 4, 0, 1, 1, 6, 1, 16, 46, 1]
noncomputable def codeEnd : Array Nat := #[14, 9, 4, 1, 2, 16, 10, 16, 13, 0, 7, 7, 16, 13, 16, 10, 15, 18, 5, 16, 10, 15, 13, 11, 16, 13, 5, 5, 0, 16, 10, 1, 15, 2, 0, 1]
theorem patDot (w : World) : patIn (hd.heap_1 w.params) 204 codeDot = true := by kernel_rfl
theorem patEnd (w : World) : patIn (hd.heap_1 w.params) 209 codeEnd = true := by kernel_rfl
local macro_rules | `(tactic| walk_at "getMethod ref") => `(tactic| (k_here; (with_reducible show wpAny _ _ (getMethod (Value.ref 204) _ _) _ _ _); k_dflt (refine' pat_meth ?k1 ?k2 ?k3 ?_; (case k1 => k_asm); (case k2 => k_asm); (case k3 => exact patDot _); k_whole)))
local macro_rules | `(tactic| walk_at "getMethod ref") => `(tactic| (k_here; (with_reducible show wpAny _ _ (getMethod (Value.ref 209) _ _) _ _ _); k_dflt (refine' pat_meth ?k1 ?k2 ?k3 ?_; (case k1 => k_asm); (case k2 => k_asm); (case k3 => exact patEnd _); k_whole)))
local macro_rules | `(tactic| walk_at "call builtin:re.Pattern.sub") => `(tactic| (k_here; k_dflt (refine' call_subOf ?k1 ?k2 ?k3 ?k4 ?k5 ?k6 ?_; (case k1 => k_asm); (case k2 => k_asm); (case k3 => k_asm); (case k4 => first | exact patDot _ | exact patEnd _); (case k5 => kernel_rfl); (case k6 => assumption); k_whole); intro h' tk' t' F' N'))
theorem c_quote {x y z : Str} {tx : Tok}
   (B : Below A₀ base outer h₀) (F : Fr h₀ L s.heap m) (KX : (hd.heap_1 w.params).In h₀) (N : News h₀ L s.heap news) (T : TopRead p loose mg mb h₀) (BM : BMain mg h₀) (hk : cs.kind = .function) (hdp : dp + 20 < recursionLimit) (hu : un + 200 < cLine)
   (hy : subOf codeEnd "\r\n" x = some y) (hz : subOf codeDot ".." y = some z)
   (hret : ∀ h' tk t', Fr h₀ L h' m → News h₀ L h' news → Q (.str z t') { s with heap := h', toks := tk }) :
   wpAny (model PySem.Challenge.rw_tc0049_01.prog w) (ktrTop dp un gd cn cs L a ccd cl outer) (call (.ref 216) [.str x tx] []) Q E s := by
  revert KX; k_fill; intro KX; refine wpAny_call ?_
  k_dflt cell_enter
  k_steps
  rename News h₀ _ _ _ => N9
  exact hret _ _ _ (by k_asm) N9
end

section
local macro_rules | `(tactic| walk_at "pad") => `(tactic| fail)
local macro_rules | `(tactic| walk_at "pad") => `(tactic| fail)
local macro_rules | `(tactic| walk_at "pad") => `(tactic| fail)
local macro_rules | `(tactic| walk_at "pad") => `(tactic| fail)
local macro_rules | `(tactic| walk_at "pad") => `(tactic| fail)
local macro_rules | `(tactic| walk_at "pad") => `(tactic| fail)
local macro_rules | `(tactic| walk_at "pad") => `(tactic| fail)
local macro_rules | `(tactic| walk_at "kK") => `(tactic| first | assumption | exact rfl)
local macro_rules | `(tactic| walk_at "call builtin:str.split") => `(tactic| (k_here; k_dflt (refine' split_ok ?k1 ?k2 ?k3 ?_; (case k1 => k_asm); (case k2 => k_asm); (case k3 => assumption); k_whole)))
local macro_rules | `(tactic| walk_at "exec For Name Call cons nil") => `(tactic| (k_here; k_dflt (refine For_Z ?_)))
local macro_rules | `(tactic| walk_at "exec While") => `(tactic| (k_here; refine hold ?_))
local macro_rules | `(tactic| walk_at "call builtin:list.append") => `(tactic| (k_here; (with_reducible show wpAny _ _ (call (Value.builtin _) [Value.ref _, _]) _ _ _); k_dflt (refine' append_K ?k1 ?k2 ?k3 ?_ ?z; (case k1 => k_asm); (case k2 => k_asm); (case k3 => k_upd); (case z => (rw [List.size_toArray, sizeLine_eq]; omega)); k_whole); intro h' F' N'))
local macro_rules | `(tactic| walk_at "truthy str") => `(tactic| (k_here; (with_reducible show wpAny _ _ (PySem.truthy (Value.str (dots (_ + 3)) _)) _ _ _); k_dflt (refine' dots_true ?k1 ?_; (case k1 => omega)); intro _))
local macro_rules | `(tactic| walk_at "subscriptTail Name Slice str ref") => `(tactic| (k_here; (with_reducible show wpAny _ _ (subscriptTail _ (Expr.Slice none (some _) none _) (Value.str (dots (_ + 3)) _) (Value.ref _)) _ _ _); (with_reducible rename Fr _ _ _ _ => F'); (with_reducible rename News _ _ _ _ => N'); (refine dots_lo (s := ⟨_, _, _, _, _⟩) ?k1 ?kj F' N' ?_ ?k2 ?k3; (case k1 => omega); (case kj => rfl); (case k2 => with_unfolding_all rfl); (case k3 => intro _; with_unfolding_all rfl)); intro _ _ _ _ _))
local macro_rules | `(tactic| walk_at "subscriptTail Name Slice str ref") => `(tactic| (k_here; (with_reducible show wpAny _ _ (subscriptTail _ (Expr.Slice (some _) none none _) (Value.str (dots (_ + 3)) _) (Value.ref _)) _ _ _); (with_reducible rename Fr _ _ _ _ => F'); (with_reducible rename News _ _ _ _ => N'); (refine dots_hi (s := ⟨_, _, _, _, _⟩) ?k1 ?kj F' N' ?_ ?k2 ?k3; (case k1 => omega); (case kj => rfl); (case k2 => with_unfolding_all rfl); (case k3 => intro _; with_unfolding_all rfl)); intro _ _ _ _ _))
theorem c_kinds {x : Str} {tx : Tok} {rows : List Nat}
   (B : Below A₀ base outer h₀) (F : Fr h₀ L s.heap m) (KX : (hd.heap_1 w.params).In h₀) (N : News h₀ L s.heap news) (T : TopRead p loose mg mb h₀) (BM : BMain mg h₀) (hk : cs.kind = .function) (hdp : dp + 20 < recursionLimit) (hu : un + 200 < cLine)
   (hx : Txt.split x "\r\n" = rows.map dots) (hr : ∀ n ∈ rows, n < 64) (hrl : rows.length ≤ 2) (hxl : splitOk x "\r\n" = true) (G : AllBare s.gens)
   (hret : ∀ l vs c s', IntsAre vs (kindsOf rows) → Fr h₀ L s'.heap m → News h₀ L s'.heap ((l, listOf vs.toArray c) :: news) → (∀ p ∈ news, p.1 < l) → AllBare s'.gens → s'.os = s.os → Q (.ref l) s') :
   wpAny (model PySem.Challenge.rw_tc0049_01.prog w) (ktrTop dp un gd cn cs L a ccd cl outer) (call (.ref 233) [.str x tx] []) Q E s := by
  revert KX; k_fill; intro KX; refine wpAny_call ?_
  k_dflt cell_enter
  k_steps
  rename News _ _ _ ((_, listOf #[] 0) :: news) => N8
  obtain ⟨l8, e8⟩ := led_name N8
  subst e8
  rename List (Str × Tok) => sl
  rename List.map _ _ = Txt.split _ _ => hsl
  rename News _ _ _ ((_, listOf (strValues sl).toArray 0) :: _) => N9
  rename Fr _ _ _ (fun _ => _) => F9
  obtain ⟨a9, e9⟩ := led_name N9
  subst e9
  rename ∀ p ∈ ((l8, listOf #[] 0) :: news), p.1 < _ => l9
  have l99 := l9
  rename ∀ p ∈ news, p.1 < l8 => l1
  (try k_lt l9)
  refine' forZ_list (items := (strValues sl).toArray) ["row", "rest", "size"] (fun i nx => ∃ (vs : List Value) (c : Nat), nx = ((a9, listOf (strValues sl).toArray 0) :: (l8, listOf vs.toArray c) :: news) ∧ IntsAre vs (kindsOf (rows.take i)) ∧ vs.length ≤ 64 * i) ?kl ?kh ?ks ?kx ?kp F9 N9 G ?kj ?kn ?kt ?kd
  case kl => exact ⟨_, (N9 _ (.head _)).1, rfl, _, rfl⟩
  case kh => rfl
  case ks => rfl
  case kx => rfl
  case kp => rfl
  case kj => exact ⟨[], 0, rfl, .nil, by simp⟩
  case kn =>
    rintro i m₁ nx h ⟨vs, c, rfl, -⟩ - N₁
    exact ⟨_, _, (N₁ _ (.head _)).1, rfl⟩
  case kt =>
    rintro I i v u nx o' s₁ hI hv ⟨vs, c, rfl, hi, hz⟩ hoff F₁ N₁ G₁ ho₁
    have hI9 := hI
    (try k_lt hI9)
    have hr8 : ∀ p ∈ news, p.1 ≠ l8 := fun p hp => Nat.ne_of_lt (l1 p hp)
    obtain ⟨x1, t1, rfl, hx1⟩ := strsAre_values sl i v (by simpa using hv)
    rw [hsl, hx, List.getElem?_map] at hx1
    obtain ⟨n, hn, rfl⟩ := Option.map_eq_some_iff.mp hx1
    k_steps
    rename Fr _ _ _ _ => F2
    rename News _ _ _ _ => N2
    refine whileZ (n₀ := n) (v₀ := .str (dots n) t1) "rest" ["row", "size"] (fun k v nx => ∃ (vs' : List Value) (c' : Nat) (t' : Tok) (ns : List Int), v = .str (dots k) t' ∧ nx = ((I, o') :: (a9, listOf (strValues sl).toArray 0) :: (l8, listOf vs'.toArray c') :: news) ∧ IntsAre vs' ns ∧ ns ++ kinds1 k = kindsOf (rows.take i) ++ kinds1 n ∧ k ≤ n ∧ vs'.length + k ≤ vs.length + n) F2 N2 rfl ⟨vs, c, t1, _, rfl, rfl, hi, rfl, Nat.le_refl _, Nat.le_refl _⟩ ?_
    rintro k v u' nx h3 tk3 ⟨vs', c', t', ns, rfl, rfl, hi', hk', hkn, hz'⟩ F3 N3
    have hn64 : n < 64 := hr n (List.mem_of_getElem? hn)
    have hi2 : i < 2 := by have := (List.getElem?_eq_some_iff.mp hn).1; omega
    match k, hk', hkn, hz', F3 with
    | 0, hk', hkn, hz', F3 =>
      rw [dots_0] at F3
      k_steps
      refine TurnZ.next ((a9, listOf (strValues sl).toArray 0) :: (l8, listOf vs'.toArray c') :: news) F3 N3 (fun p hp => hp) ?e1a G₁ ho₁ ?e2a ⟨vs', c', rfl, ?e3a, by omega⟩
      case e1a =>
        intro p hp
        rcases List.mem_cons.mp hp with rfl | hp
        · exact hoff _ (.head _)
        rcases List.mem_cons.mp hp with rfl | hp
        · exact hoff (l8, listOf vs.toArray c) (.tail _ (.head _))
        · exact hoff p (.tail _ (.tail _ hp))
      case e2a =>
        intro y hy
        have q1 := nin (a := "rest") hy rfl
        have q2 := nin (a := "row") hy rfl
        have q3 := nin (a := "size") hy rfl
        have h2 : ((["row", "size"] : List Str)).contains y = false := cont_sub hy (by decide +kernel)
        simp only [if_neg q1, if_neg q2, frOf, h2, hy, Bool.false_eq_true, if_false]
      case e3a =>
        rw [kindsOf_succ hn, ← hk']
        simpa [kinds1] using hi'
    | 1, hk', hkn, hz', F3 =>
      rw [dots_1] at F3
      k_steps
      rename Fr _ _ _ _ => F4
      rename News _ _ _ _ => N4
      simp only [List.push_toArray] at N4
      obtain ⟨tfb, N5b⟩ : ∃ tf : Tok, News _ _ _ ((I, o') :: (a9, listOf (strValues sl).toArray 0) :: (l8, listOf (vs' ++ [Value.int 23 tf]).toArray (c' + 1)) :: news) := ⟨_, N4⟩
      have hlenb : (vs' ++ [Value.int 23 tfb]).length = vs'.length + 1 := by rw [List.length_append]; rfl
      refine' WTurn.next (n' := 0) _ F4 N5b (fun p hp => hp) ?e5b ?e2b ?e3b ⟨vs' ++ [Value.int 23 tfb], c' + 1, _, ns ++ [23], rfl, rfl, ints_snoc hi', ?e4b, ?e6b, ?e7b⟩
      case e5b => omega
      case e6b => omega
      case e7b => omega
      case e2b => rw [dots_0]; rfl
      case e3b =>
        intro y hy
        obtain ⟨h1, h2⟩ := Bool.or_eq_false_iff.mp hy
        have q1 := beq_eq_false_iff_ne.mp h1
        have q2 := nin (a := "row") h2 rfl
        have q3 := nin (a := "size") h2 rfl
        simp only [if_neg q1, if_neg q2, if_neg q3, frOf, h2, Bool.false_eq_true, if_false]
      case e4b => rw [← hk', List.append_assoc]; rfl
    | 2, hk', hkn, hz', F3 =>
      rw [dots_2] at F3
      k_steps
      rename Fr _ _ _ _ => F4
      rename News _ _ _ _ => N4
      simp only [List.push_toArray] at N4
      obtain ⟨tfc, N5c⟩ : ∃ tf : Tok, News _ _ _ ((I, o') :: (a9, listOf (strValues sl).toArray 0) :: (l8, listOf (vs' ++ [Value.int 23 tf]).toArray (c' + 1)) :: news) := ⟨_, N4⟩
      have hlenc : (vs' ++ [Value.int 23 tfc]).length = vs'.length + 1 := by rw [List.length_append]; rfl
      refine' WTurn.next (n' := 1) _ F4 N5c (fun p hp => hp) ?e5c ?e2c ?e3c ⟨vs' ++ [Value.int 23 tfc], c' + 1, _, ns ++ [23], rfl, rfl, ints_snoc hi', ?e4c, ?e6c, ?e7c⟩
      case e5c => omega
      case e6c => omega
      case e7c => omega
      case e2c => rw [dots_1]; rfl
      case e3c =>
        intro y hy
        obtain ⟨h1, h2⟩ := Bool.or_eq_false_iff.mp hy
        have q1 := beq_eq_false_iff_ne.mp h1
        have q2 := nin (a := "row") h2 rfl
        have q3 := nin (a := "size") h2 rfl
        simp only [if_neg q1, if_neg q2, if_neg q3, frOf, h2, Bool.false_eq_true, if_false]
      case e4c => rw [← hk', List.append_assoc]; rfl
    | k + 3, hk', hkn, hz', F3 =>
      k_steps
      rename Fr _ _ _ _ => F4
      rename News _ _ _ _ => N4
      simp only [List.push_toArray] at N4
      obtain ⟨tfd, N5d⟩ : ∃ tf : Tok, News _ _ _ ((I, o') :: (a9, listOf (strValues sl).toArray 0) :: (l8, listOf (vs' ++ [Value.int 52 tf]).toArray (c' + 1)) :: news) := ⟨_, N4⟩
      have hlend : (vs' ++ [Value.int 52 tfd]).length = vs'.length + 1 := by rw [List.length_append]; rfl
      refine' WTurn.next (n' := k) _ F4 N5d (fun p hp => hp) ?e5d ?e2d ?e3d ⟨vs' ++ [Value.int 52 tfd], c' + 1, _, ns ++ [52], rfl, rfl, ints_snoc hi', ?e4d, ?e6d, ?e7d⟩
      case e5d => omega
      case e6d => omega
      case e7d => omega
      case e2d => rfl
      case e3d =>
        intro y hy
        obtain ⟨h1, h2⟩ := Bool.or_eq_false_iff.mp hy
        have q1 := beq_eq_false_iff_ne.mp h1
        have q2 := nin (a := "row") h2 rfl
        have q3 := nin (a := "size") h2 rfl
        simp only [if_neg q1, if_neg q2, if_neg q3, frOf, h2, Bool.false_eq_true, if_false]
      case e4d => rw [← hk', kinds1_3, List.append_assoc]; rfl
  case kd =>
    rintro u nx s₁ ⟨vs, c, rfl, hi, hz⟩ F₁ N₁ G₁ ho₁
    k_steps
    rename News h₀ _ _ _ => N5
    rw [List.size_toArray, show (strValues sl).length = rows.length by have := congrArg List.length hsl; simpa [strValues, hx] using this, List.take_length] at hi
    exact hret _ _ _ _ hi (by k_asm) (fun p hp => N5 p (.tail _ hp)) l1 G₁ ho₁
end

section
local macro_rules | `(tactic| walk_at "pad") => `(tactic| fail)
local macro_rules | `(tactic| walk_at "pad") => `(tactic| fail)
local macro_rules | `(tactic| walk_at "pad") => `(tactic| fail)
local macro_rules | `(tactic| walk_at "pad") => `(tactic| fail)
local macro_rules | `(tactic| walk_at "pad") => `(tactic| fail)
local macro_rules | `(tactic| walk_at "pad") => `(tactic| fail)
local macro_rules | `(tactic| walk_at "pad") => `(tactic| fail)
local macro_rules | `(tactic| walk_at "pad") => `(tactic| fail)
local macro_rules | `(tactic| walk_at "pad") => `(tactic| fail)
local macro_rules | `(tactic| walk_at "pad") => `(tactic| fail)
local macro_rules | `(tactic| walk_at "pad") => `(tactic| fail)
local macro_rules | `(tactic| walk_at "pad") => `(tactic| fail)
local macro_rules | `(tactic| walk_at "pad") => `(tactic| fail)
local macro_rules | `(tactic| walk_at "pad") => `(tactic| fail)
local macro_rules | `(tactic| walk_at "pad") => `(tactic| fail)
local macro_rules | `(tactic| walk_at "pad") => `(tactic| fail)
local macro_rules | `(tactic| walk_at "kK") => `(tactic| first | assumption | exact rfl)
theorem c_eof {k : Nat} {t : Tok}
   (B : Below A₀ base outer h₀) (F : Fr h₀ L s.heap m) (KX : (hd.heap_1 w.params).In h₀) (N : News h₀ L s.heap news) (T : TopRead p loose mg mb h₀) (BM : BMain mg h₀) (hk : cs.kind = .function) (hdp : dp + 10 < recursionLimit) (hu : un + 100 < cLine)
   (hret : ∀ h' tk, Fr h₀ L h' m → News h₀ L h' news → Q (.bool ((k : Int) == 0)) { s with heap := h', toks := tk }) :
   wpAny (model PySem.Challenge.rw_tc0049_01.prog w) (ktrTop dp un gd cn cs L a ccd cl outer) (call (.ref 226) [.int (k : Int) t] []) Q E s := by
  revert KX; k_fill; intro KX; refine wpAny_call ?_
  k_dflt cell_enter
  k_steps
  rename News h₀ _ _ _ => N9
  exact hret _ _ (by k_asm) N9
end

section
local macro_rules | `(tactic| walk_at "pad") => `(tactic| fail)
local macro_rules | `(tactic| walk_at "pad") => `(tactic| fail)
local macro_rules | `(tactic| walk_at "pad") => `(tactic| fail)
local macro_rules | `(tactic| walk_at "pad") => `(tactic| fail)
local macro_rules | `(tactic| walk_at "pad") => `(tactic| fail)
local macro_rules | `(tactic| walk_at "pad") => `(tactic| fail)
local macro_rules | `(tactic| walk_at "pad") => `(tactic| fail)
local macro_rules | `(tactic| walk_at "pad") => `(tactic| fail)
local macro_rules | `(tactic| walk_at "pad") => `(tactic| fail)
local macro_rules | `(tactic| walk_at "pad") => `(tactic| fail)
local macro_rules | `(tactic| walk_at "pad") => `(tactic| fail)
local macro_rules | `(tactic| walk_at "pad") => `(tactic| fail)
local macro_rules | `(tactic| walk_at "pad") => `(tactic| fail)
local macro_rules | `(tactic| walk_at "pad") => `(tactic| fail)
local macro_rules | `(tactic| walk_at "pad") => `(tactic| fail)
local macro_rules | `(tactic| walk_at "pad") => `(tactic| fail)
local macro_rules | `(tactic| walk_at "pad") => `(tactic| fail)
local macro_rules | `(tactic| walk_at "kK") => `(tactic| first | assumption | exact rfl)
noncomputable def kOf (t : Nat) : Nat := if t ≤ 2 then t else t - 2
noncomputable def lnsOf (t : Nat) : List Str := if t ≤ 2 then [] else [".."]
noncomputable def dotQ : Str × Str := ("", ".")
noncomputable def qsOf (t : Nat) : List (Str × Str) := List.replicate (kOf t - 1) dotQ
noncomputable def textOf (t : Nat) (sep : Str) : Str := Txt.join sep (lnsOf t ++ if t = 0 then [] else [catAll (List.replicate (kOf t) dotQ)])
theorem TupsIn.unsnoc {rest : List (Addr × Obj)} : ∀ {its : List Value} {qs : List (Str × Str)} {q : Str × Str}, TupsIn rest its (qs ++ [q]) → ∃ its0 ay u v, its = its0 ++ [Value.ref ay] ∧ TupsIn rest its0 qs ∧ (ay, tupO (.str q.1 u) (.str q.2 v)) ∈ rest := by
  intro its qs
  induction qs generalizing its with
  | nil =>
    intro q h
    cases h with
    | cons hm h' => cases h'; exact ⟨[], _, _, _, rfl, .nil, hm⟩
  | cons q0 qs ih =>
    intro q h
    cases h with
    | cons hm h' =>
      obtain ⟨its0, ay, u, v, rfl, h1, h2⟩ := ih h'
      exact ⟨_ :: its0, ay, u, v, rfl, .cons hm h1, h2⟩
theorem kOf_facts : ∀ t < 5, lenAll (List.replicate (kOf t) dotQ ++ [dotQ]) < 2 ^ 20 ∧ kOf t ≤ 2 ∧ (kOf t < 2 → lenAll (List.replicate (kOf t) dotQ ++ [dotQ]) ≤ 2 ∧ List.replicate (kOf t) dotQ ++ [dotQ] = List.replicate (kOf (t + 1)) dotQ ∧ (t < 4 → lnsOf (t + 1) = lnsOf t)) := by decide +kernel
theorem two_facts : kOf 2 = 2 ∧ List.replicate (kOf 2) dotQ = [dotQ] ++ [dotQ] ∧ lenAll ([dotQ] ++ [dotQ] ++ [dotQ]) < 2 ^ 20 ∧ 2 < lenAll ([dotQ] ++ [dotQ] ++ [dotQ]) ∧ lenAll ([dotQ] ++ [dotQ]) < 2 ^ 20 ∧ JoinOk "" (([dotQ] ++ [dotQ]).map catOf) = true ∧ lnsOf 2 ++ [catAll ([dotQ] ++ [dotQ])] = lnsOf 3 ∧ List.replicate (kOf 3) dotQ = [dotQ] := by decide +kernel
theorem str_facts : ∀ t < 5, t ≠ 0 → List.replicate (kOf t) dotQ = qsOf t ++ [dotQ] ∧ lenAll (qsOf t ++ [dotQ]) < 2 ^ 20 ∧ 0 < lenAll (qsOf t ++ [dotQ]) ∧ JoinOk "" ((qsOf t ++ [dotQ]).map catOf) = true ∧ Txt.isspace (catAll (qsOf t ++ [dotQ])) = false ∧ (lnsOf t ++ [catAll (qsOf t ++ [dotQ])]).length ≤ 2 ∧ ((lnsOf t ++ [catAll (qsOf t ++ [dotQ])]).map (·.length)).sum ≤ 8 := by decide +kernel
theorem dotQ_facts : PyData.strOk dotQ.1 = true ∧ PyData.strOk dotQ.2 = true ∧ ¬ (dotQ.1 = " " ∧ dotQ.2 = "") := by decide +kernel
theorem c_turn {f fd ls ac ad : Addr} {t0 t1 u v : Tok} {h1 : Int} {hs : Nat → Int} {tkn : Nat → Tok} {mw : Int} {lines its : List Value} {nl n1 : Nat} {p1 p2 : Array Value} {rest : List (Addr × Obj)} {t : Nat}
   (B : Below A₀ base outer h₀) (F : Fr h₀ L s.heap m) (KX : (hd.heap_1 w.params).In h₀) (N : News h₀ L s.heap ((f, fmtO fd) :: (fd, fdO hs tkn mw (".":Str) ls ac) :: (ls, listOf lines.toArray nl) :: (ac, accO 195 ad its.toArray n1) :: (ad, dictOf [⟨h1, .str "_initial_size" t1, .int 0 t0⟩] 1) :: (157, tabO p1) :: (164, tabO p2) :: rest)) (T : TopRead p loose mg mb h₀) (BM : BMain mg h₀) (hk : cs.kind = .function) (hdp : dp + 24 < recursionLimit) (hu : un + 240 < cLine)
   (ord : 164 < fd ∧ fd < f ∧ f < ls ∧ ls < ad ∧ ad < ac) (hr : ∀ p ∈ rest, p.1 ≠ ls ∧ p.1 ≠ ac ∧ p.1 ≠ ad ∧ p.1 ≠ 157 ∧ p.1 ≠ 164) (ht : t < 4) (hmw : mw = 2) (G : AllBare s.gens) (htr : TriplesOk p1.toList) (htr2 : TriplesOk p2.toList)
   (hq : TupsIn rest its (List.replicate (kOf t) dotQ)) (htx : StrsAre lines (lnsOf t))
   (hret : ∀ s' tp lines' its' nl' n1' t0' a b, TriplesOk a.toList → TriplesOk b.toList → Fr h₀ L s'.heap m → News h₀ L s'.heap ((f, fmtO fd) :: (fd, fdO hs tkn mw (".":Str) ls ac) :: (ls, listOf lines'.toArray nl') :: (ac, accO 195 ad its'.toArray n1') :: (ad, dictOf [⟨h1, .str "_initial_size" t1, .int 0 t0'⟩] 1) :: (157, tabO a) :: (164, tabO b) :: ((tp, tupO (.str "" u) (.str "." v)) :: rest)) → (∀ p ∈ ((f, fmtO fd) :: (fd, fdO hs tkn mw (".":Str) ls ac) :: (ls, listOf lines.toArray nl) :: (ac, accO 195 ad its.toArray n1) :: (ad, dictOf [⟨h1, .str "_initial_size" t1, .int 0 t0⟩] 1) :: (157, tabO p1) :: (164, tabO p2) :: rest), p.1 < tp) → AllBare s'.gens → s'.os = s.os →
     (∀ l', TupsIn l' its (List.replicate (kOf t) dotQ) → (tp, tupO (.str "" u) (.str "." v)) ∈ l' → TupsIn l' its' (List.replicate (kOf (t + 1)) dotQ)) → StrsAre lines' (lnsOf (t + 1)) → Q .none s') :
   wpAny (model PySem.Challenge.rw_tc0049_01.prog w) (ktrTop dp un gd cn cs L a ccd cl outer) (call (.ref 108) [.ref f, .str "" u, .str "." v] []) Q E s := by
  have hlen := hq.len
  rw [List.length_replicate] at hlen
  obtain ⟨f1, f2, f3⟩ := kOf_facts t (by omega)
  by_cases hk2 : kOf t < 2
  · obtain ⟨g1, g2, g3⟩ := f3 hk2
    refine c_appN (its := its) (qs := List.replicate (kOf t) dotQ) B F KX N T BM hk hdp hu ord hr G htr hq f1 (by rw [hmw]; exact g1) (by omega) ?_
    intro s' tp n1' a hta F' N' hlt G' ho'
    refine hret s' tp lines _ nl n1' t0 a p2 hta htr2 F' N' hlt G' ho' ?_ (by rw [g3 ht]; exact htx)
    rw [← g2]
    exact fun l' hq' hm => hq'.snoc (q := dotQ) hm
  · have ht2 : t = 2 := by unfold kOf at hk2; split at hk2 <;> omega
    subst ht2
    obtain ⟨g0, g1, g2, g3, g4, g5, g6, g7⟩ := two_facts
    rw [g1] at hq
    obtain ⟨its0, ay, ua, va, rfl, hq0, hy⟩ := hq.unsnoc
    have hl0 := hq0.len
    refine c_appF (its := its0) (qs := [dotQ]) (xa := "") (x := "") (y := ".") B F KX N T BM hk hdp hu ord hr G htr htr2 hq0 hy rfl g2 (by rw [hmw]; exact g3) (by omega) (by rw [hl0]; decide) (by have := htx.length; rw [this]; decide) g4 g5 ?_
    intro s' tp n1' tv t0' nl' a b hta htb F' N' hlt G' ho'
    refine hret s' tp _ [Value.ref tp] nl' n1' t0' a b hta htb F' N' hlt G' ho' ?_ ?_
    · rw [g7]; exact fun l' _ hm => .cons (q := dotQ) hm .nil
    · rw [← g6]; exact strs_snoc htx
theorem c_sent {f fd ls ac ad : Addr} {t0 t1 : Tok} {h1 : Int} {hs : Nat → Int} {tkn : Nat → Tok} {mw : Int} {lines its : List Value} {nl n1 : Nat} {p1 p2 : Array Value} {rest : List (Addr × Obj)} {t : Nat} {sep : Str} {st : Tok}
   (B : Below A₀ base outer h₀) (F : Fr h₀ L s.heap m) (KX : (hd.heap_1 w.params).In h₀) (N : News h₀ L s.heap ((f, fmtO fd) :: (fd, fdO hs tkn mw (".":Str) ls ac) :: (ls, listOf lines.toArray nl) :: (ac, accO 195 ad its.toArray n1) :: (ad, dictOf [⟨h1, .str "_initial_size" t1, .int 0 t0⟩] 1) :: (157, tabO p1) :: (164, tabO p2) :: rest)) (T : TopRead p loose mg mb h₀) (BM : BMain mg h₀) (hk : cs.kind = .function) (hdp : dp + 28 < recursionLimit) (hu : un + 280 < cLine)
   (ord : 164 < fd ∧ fd < f ∧ f < ls ∧ ls < ad ∧ ad < ac) (hr : ∀ p ∈ rest, p.1 ≠ ls ∧ p.1 ≠ ac ∧ p.1 ≠ ad ∧ p.1 ≠ 157 ∧ p.1 ≠ 164) (ht : t < 5) (G : AllBare s.gens) (htr : TriplesOk p1.toList) (htr2 : TriplesOk p2.toList) (hsl : sep.length ≤ 2)
   (hq : TupsIn rest its (List.replicate (kOf t) dotQ)) (htx : StrsAre lines (lnsOf t))
   (hret : ∀ s' t' a b, TriplesOk a.toList → TriplesOk b.toList → Fr h₀ L s'.heap m → News h₀ L s'.heap ((157, tabO a) :: (164, tabO b) :: rest) → AllBare s'.gens → s'.os = s.os → Q (.str (textOf t sep) t') s') :
   wpAny (model PySem.Challenge.rw_tc0049_01.prog w) (ktrTop dp un gd cn cs L a ccd cl outer) (call (.ref 59) [.ref f, .str sep st] []) Q E s := by
  have key : ∀ {h' : Heap} {lines' : Array Value} {nl' n1' : Nat} {t0' : Tok} {a b : Array Value}, News h₀ L h' ((f, fmtO fd) :: (fd, fdO hs tkn mw (".":Str) ls ac) :: (ls, listOf lines' nl') :: (ac, accO 195 ad #[] n1') :: (ad, dictOf [⟨h1, .str "_initial_size" t1, .int 0 t0'⟩] 1) :: (157, tabO a) :: (164, tabO b) :: rest) → News h₀ L h' ((157, tabO a) :: (164, tabO b) :: rest) := fun N' p hp => N' p (.tail _ (.tail _ (.tail _ (.tail _ (.tail _ hp)))))
  have hlx := htx.length
  by_cases h0 : t = 0
  · subst h0
    have hi : its = [] := by cases hq; rfl
    subst hi
    have hl : lines = [] := by cases htx; rfl
    refine c_strB (lines := lines) (its := []) (qs := []) B F KX N T BM hk hdp hu ord hr G htr htr2 htx (by rw [show lnsOf 0 = [] from rfl]; simp) ?_
    intro s' t' lines' t0' nl' n1' a b hta htb F' N' G' ho'
    have e : Txt.join sep (lnsOf 0) = textOf 0 sep := by unfold textOf; simp
    rw [e]
    exact hret s' t' a b hta htb F' (key N') G' ho'
  · obtain ⟨g1, g2, g3, g4, g5, g6, g7⟩ := str_facts t ht h0
    obtain ⟨d1, d2, d3⟩ := dotQ_facts
    rw [g1] at hq
    obtain ⟨its0, ay, ua, va, rfl, hq0, hy⟩ := hq.unsnoc
    have hl0 := hq0.len
    have hk2 : (qsOf t).length ≤ 2 := by unfold qsOf kOf; rw [List.length_replicate]; split <;> omega
    have hln : (lnsOf t).length ≤ 2 := by unfold lnsOf; split <;> decide
    refine c_strA (its := its0) (qs := qsOf t) (q := dotQ) B F KX N T BM hk hdp hu ord hr G htr htr2 hq0 hy ⟨d1, d2⟩ d3 g2 g3 g4 (by omega) g5 (by omega) htx ?_ ?_
    · have h2 : (lnsOf t ++ [catAll (qsOf t ++ [dotQ])]).length * sep.length ≤ 2 * 2 := Nat.mul_le_mul g6 hsl
      omega
    · intro s' t' lines' t0' nl' n1' a b hta htb F' N' G' ho'
      have e : Txt.join sep (lnsOf t ++ [catAll (qsOf t ++ [dotQ])]) = textOf t sep := by unfold textOf; rw [if_neg h0, g1]
      rw [e]
      exact hret s' t' a b hta htb F' (key N') G' ho'
noncomputable def addOf (t : Nat) : Nat := [0, 0, 1, 1, 2].getD t 0
noncomputable def sepsL : List Str := ["\n", "\r", "\r\n"]
noncomputable def sendB (t : Nat) (sep : Str) : Bool := match subOf codeEnd "\r\n" (textOf t sep) with
  | some y => match subOf codeDot ".." y with
    | some z => Txt.split z "\r\n" == ((Txt.split z "\r\n").map (·.length)).map dots && decide ((Txt.split z "\r\n").length ≤ 2) && (Txt.split z "\r\n").all (fun r => decide (r.length < 64)) && splitOk z "\r\n" && (kindsOf ((Txt.split z "\r\n").map (·.length))).count 52 == addOf t
    | none => false
  | none => false
theorem sendB_ok : ∀ t < 5, ∀ sep ∈ sepsL, sendB t sep = true := by decide +kernel
theorem sepsL_len : ∀ sep ∈ sepsL, sep.length ≤ 2 := by decide +kernel
theorem send_of {t : Nat} {sep : Str} (h : sendB t sep = true) : ∃ y z rows, subOf codeEnd "\r\n" (textOf t sep) = some y ∧ subOf codeDot ".." y = some z ∧ Txt.split z "\r\n" = rows.map dots ∧ rows.length ≤ 2 ∧ (∀ n ∈ rows, n < 64) ∧ splitOk z "\r\n" = true ∧ (kindsOf rows).count 52 = addOf t := by
  unfold sendB at h
  split at h
  · rename_i y hy
    split at h
    · rename_i z hz
      simp only [Bool.and_eq_true, beq_iff_eq, decide_eq_true_eq, List.all_eq_true] at h
      obtain ⟨⟨⟨⟨h1, h2⟩, h3⟩, h4⟩, h5⟩ := h
      exact ⟨y, z, _, hy, hz, h1, by rw [List.length_map]; exact h2, fun n hn => by obtain ⟨r, hr, rfl⟩ := List.mem_map.mp hn; exact h3 r hr, h4, h5⟩
    · cases h
  · cases h
theorem hr_of {X : List (Addr × Obj)} {f fd ls ac ad : Addr} (h1 : 164 < fd) (h2 : fd < f) (h3 : f < ls) (h4 : ls < ad) (h5 : ad < ac) (h : ∀ p ∈ X, (p.1 < fd ∧ p.1 ≠ 157 ∧ p.1 ≠ 164) ∨ ac < p.1) : ∀ p ∈ X, p.1 ≠ ls ∧ p.1 ≠ ac ∧ p.1 ≠ ad ∧ p.1 ≠ 157 ∧ p.1 ≠ 164 := by
  intro p hp
  have g1 := ltN h1; have g2 := ltN h2; have g3 := ltN h3; have g4 := ltN h4; have g5 := ltN h5
  rcases h p hp with ⟨a, b, c⟩ | a
  · have ga := ltN a
    exact ⟨fun e => by rw [e] at ga; omega, fun e => by rw [e] at ga; omega, fun e => by rw [e] at ga; omega, b, c⟩
  · have ga := ltN a
    exact ⟨fun e => by rw [e] at ga; omega, fun e => by rw [e] at ga; omega, fun e => by rw [e] at ga; omega, fun e => by rw [e] at ga; omega, fun e => by rw [e] at ga; omega⟩
theorem range_size (n : Nat) : Builtin.Range.rangeSize 0 (n : Int) 1 = (n : Int) := by
  unfold Builtin.Range.rangeSize
  simp
  omega
theorem range_small {n : Nat} (h : n < 2 ^ 20) : Builtin.Range.small 0 (n : Int) 1 = true := by
  unfold Builtin.Range.small
  rw [range_size]
  simp [Builtin.Range.rangeFitsLong]
  omega
end

end
section
variable {w : World} {dp un : Nat} {gd : Option (List Code)} {cn : Str} {cs : Scope} {a : Addr} {ccd : Value} {cl : List (Str × Addr)} {outer : List Env} {A₀ : Around} {base h₀ : Heap} {L : Addr} {m : Str → Option Value} {s : Shared} {Q E : Value → Shared → Prop} {p : Program} {loose : List Str} {mg mb : Str → Option Value} {news : List (Addr × Obj)}
section
local macro_rules | `(tactic| walk_at "kK") => `(tactic| first | assumption | exact rfl)
noncomputable def digitsF : Nat → Nat → List Nat
  | 0, _ => []
  | f + 1, n => if n = 0 then [] else n % 3 :: digitsF f (n / 3)
noncomputable def ledF (ds : List Nat) : Nat := ds.foldl (fun led fig => led + addOf (led + fig)) 0
noncomputable def ledT (n : Nat) : Nat := ledF (digitsF 4 n).reverse
theorem led_small : ∀ n < 64, ∀ i fig, (digitsF 4 n).reverse[i]? = some fig → ledF ((digitsF 4 n).reverse.take i) + fig < 5 := by
  have key : ∀ n < 64, ∀ i < 4, ledF ((digitsF 4 n).reverse.take i) + ((digitsF 4 n).reverse[i]?.getD 0) < 5 := by decide +kernel
  have hl : ∀ n < 64, (digitsF 4 n).length ≤ 4 := by decide +kernel
  intro n hn i fig h
  have hi := (List.getElem?_eq_some_iff.mp h).1
  rw [List.length_reverse] at hi
  have := key n hn i (by have := hl n hn; omega)
  rw [h] at this
  exact this
theorem led_mem2 {a b : Addr × Obj} {l : List (Addr × Obj)} {p : Addr × Obj} (h : p ∈ a :: l) : p ∈ a :: b :: l := by
  rcases List.mem_cons.mp h with rfl | h
  · exact .head _
  · exact .tail _ (.tail _ h)
local macro_rules | `(tactic| walk_at "exec While") => `(tactic| (k_here; refine hold ?_))
local macro_rules | `(tactic| walk_at "exec For Name Subscript cons nil") => `(tactic| (k_here; k_dflt (refine For_Z ?_)))
local macro_rules | `(tactic| walk_at "exec For Name Call cons nil") => `(tactic| (k_here; k_dflt (refine For_Z ?_)))
local macro_rules | `(tactic| walk_at "binaryOp Mult str int") => `(tactic| (k_here; k_dflt (refine' mul_dots ?k1 ?_; (case k1 => omega)); intro _ _))
theorem c_led {number : Nat} {tn te : Tok} {sep : Str} {p1 p2 : Array Value} {rest : List (Addr × Obj)}
   (B : Below A₀ base outer h₀) (F : Fr h₀ L s.heap m) (KX : (hd.heap_1 w.params).In h₀) (N : News h₀ L s.heap ((157, tabO p1) :: (164, tabO p2) :: rest)) (T : TopRead p loose mg mb h₀) (BM : BMain mg h₀) (hk : cs.kind = .function) (hdp : dp + 70 < recursionLimit) (hu : un + 700 < cLine)
   (hn : number < 64) (hr : ∀ p ∈ rest, p.1 ≠ 157 ∧ p.1 ≠ 164) (G : AllBare s.gens) (htr : TriplesOk p1.toList) (htr2 : TriplesOk p2.toList) (hsep : sep ∈ sepsL)
   (hret : ∀ s' t a b, TriplesOk a.toList → TriplesOk b.toList → Fr h₀ L s'.heap m → News h₀ L s'.heap ((157, tabO a) :: (164, tabO b) :: rest) → AllBare s'.gens → s'.os = s.os → Q (.int (ledT number : Nat) t) s') :
   wpAny (model PySem.Challenge.rw_tc0049_01.prog w) (ktrTop dp un gd cn cs L a ccd cl outer) (call (.ref 240) [.int (number : Nat) tn, .str sep te] []) Q E s := by
  revert KX; k_fill; intro KX; refine wpAny_call ?_
  k_dflt cell_enter
  k_steps
  rename Fr _ _ _ (fun _ => _) => F8
  rename News _ _ _ _ => N8
  have N7 := led_tail N8
  clear N8
  obtain ⟨fl, efl⟩ := led_name N7
  subst efl
  refine whileG (n₀ := number) (v₀ := .int (number : Nat) tn) "left" ["kinds"] (fun k v nx => ∃ (vs : List Value) (c : Nat) (t : Tok) (ds : List Nat) (j : Nat), v = .int (k : Nat) t ∧ nx = ((fl, listOf vs.toArray c) :: (157, tabO p1) :: (164, tabO p2) :: rest) ∧ IntsAre vs (ds.map fun d => ((d : Nat) : Int)) ∧ ds ++ digitsF j k = digitsF 4 number ∧ k < 3 ^ j ∧ vs.length + j ≤ 4 ∧ k ≤ number) F8 N7 rfl G ⟨[], 0, tn, [], 4, rfl, rfl, .nil, rfl, by omega, by simp, Nat.le_refl _⟩ ?_
  rintro k v u nx s1 ⟨vs, c, tlf, ds, j, rfl, rfl, hi, hds, hk3, hl, hkn⟩ F1 N1 G1 o1
  k_steps
  (refine' c_eof (k := k) ?k1 ?k2 ?k3 ?k4 ?k5 ?k6 rfl ?k8 ?k9  ?_; (case k1 => k_asm); (case k2 => k_asm); (case k3 => k_asm); (case k4 => k_asm); (case k5 => k_asm); (case k6 => k_asm); (case k8 => ktr_room); (case k9 => ktr_units))
  intro h2 tk2 F2 N2
  by_cases hk0 : k = 0
  · subst hk0
    rw [show (((0 : Nat) : Int) == 0) = true from rfl]
    k_steps
    rename IntsAre _ (List.reverse _) => hir
    rename News _ _ _ ((_, listOf (List.toArray _) 0) :: (fl, _) :: _) => N3
    rename Fr _ _ _ (fun _ => _) => F3
    rename List Value => ws
    obtain ⟨dl, edl⟩ := led_name N3
    subst edl
    have hdg : ds = digitsF 4 number := by
      rw [← hds]
      cases j <;> simp [digitsF]
    rw [hdg, ← List.map_reverse] at hir
    have hledb : ∀ i fig, (digitsF 4 number).reverse[i]? = some fig → ledF ((digitsF 4 number).reverse.take i) + fig < 5 := fun i fig h => led_small number hn i fig h
    rename fl < dl ∧ _ => ldl
    refine' forR_list (items := ws.toArray) "led" ["figure", "formatter", "turn"] (fun i v nx => ∃ (t : Tok) (a b : Array Value), v = .int ((ledF ((digitsF 4 number).reverse.take i) : Nat) : Int) t ∧ nx = ((dl, listOf ws.toArray 0) :: (157, tabO a) :: (164, tabO b) :: rest) ∧ TriplesOk a.toList ∧ TriplesOk b.toList) ?q1 rfl rfl rfl rfl F3 (fun p hp => N3 p (led_mem2 hp)) ?q2 ?q3 ?q4 ?q5 ?q6
    case q1 => exact ⟨_, (N3 _ (.head _)).1, rfl, _, rfl⟩
    case q2 => assumption
    case q3 => exact ⟨_, p1, p2, rfl, rfl, htr, htr2⟩
    case q4 =>
      rintro i v m₁ nx h ⟨t, a, b, -, rfl, -⟩ - N₁
      exact ⟨_, _, (N₁ _ (.head _)).1, rfl⟩
    case q5 =>
      rintro I i v vr u nx o s₁ hI hv ⟨t, a, b, rfl, rfl, hta, htb⟩ hoff F₁ N₁ G₁ o₁
      obtain ⟨fg, tfg, rfl, hfg⟩ := hir.at i v (by simpa using hv)
      rw [List.getElem?_map] at hfg
      obtain ⟨fig, hfig, rfl⟩ := Option.map_eq_some_iff.mp hfg
      have hlt5 := hledb i fig hfig
      k_steps
      (refine' c_make (mw := 2) (sp := ".") ?k1 ?k2 ?k3 ?k4 ?k5 ?k6 rfl ?k8 ?k9  ?_; (case k1 => k_asm); (case k2 => k_asm); (case k3 => k_asm); (case k4 => k_asm); (case k5 => k_asm); (case k6 => k_asm); (case k8 => ktr_room); (case k9 => ktr_units))
      intro f fd ls ac ad hs tkn h1 t0 t1 h8 tk8 lfd of1 of2 of3 of4 F8 N8
      have lI := lfd (I, o) (.head _)
      have l164 := lfd (164, tabO b) (by k_mem)
      have ldd := lfd (dl, listOf ws.toArray 0) (by k_mem)
      have lrest : ∀ p ∈ rest, p.1 < fd := fun p hp => lfd p (by k_mem)
      (try k_lt lfd)
      k_steps
      rename IsRange _ _ _ _ _ _ _ _ => hR
      rename Fr _ _ _ (fun _ => _) => F7
      rename News _ _ _ _ => N7
      rw [← Int.natCast_add] at hR
      generalize hT : ledF (List.take i (digitsF 4 number).reverse) + fig = T at hR hlt5
      have M7 := cb_drop (news := ((f, fmtO fd) :: (fd, fdO hs tkn 2 (".":Str) ls ac) :: (ls, listOf [].toArray 0) :: (ac, accO 195 ad [].toArray 0) :: (ad, dictOf [⟨h1, .str "_initial_size" t1, .int 0 t0⟩] 1) :: (157, tabO a) :: (164, tabO b) :: ((I, o) :: (dl, listOf ws.toArray 0) :: rest))) N7 (by (intro p hp; (repeat (rcases List.mem_cons.mp hp with rfl | hp; · k_mem)); k_mem)); clear N7
      have hRf : ∀ p ∈ ((I, o) :: (dl, listOf ws.toArray 0) :: rest), p.1 < fd ∧ p.1 ≠ 157 ∧ p.1 ≠ 164 := by
        intro p hp
        rcases List.mem_cons.mp hp with rfl | hp
        · exact ⟨lI, fun e => hoff (157, tabO a) (.tail _ (.head _)) e.symm, fun e => hoff (164, tabO b) (.tail _ (.tail _ (.head _))) e.symm⟩
        rcases List.mem_cons.mp hp with rfl | hp
        · exact ⟨ldd, fun e => by rw [show dl = 157 from e] at ldl; exact absurd ldl.2.1 (Nat.lt_irrefl _), fun e => by rw [show dl = 164 from e] at ldl; exact absurd ldl.2.2.1 (Nat.lt_irrefl _)⟩
        · exact ⟨lrest p hp, (hr p hp).1, (hr p hp).2⟩
      refine' forZ_range (n := T) ["turn"] (fun t nx => ∃ (lines its : List Value) (nl n1 : Nat) (t0' : Tok) (a b : Array Value) (tups : List (Addr × Obj)), nx = ((f, fmtO fd) :: (fd, fdO hs tkn 2 (".":Str) ls ac) :: (ls, listOf lines.toArray nl) :: (ac, accO 195 ad its.toArray n1) :: (ad, dictOf [⟨h1, .str "_initial_size" t1, .int 0 t0'⟩] 1) :: (157, tabO a) :: (164, tabO b) :: (tups ++ ((I, o) :: (dl, listOf ws.toArray 0) :: rest))) ∧ TupsIn (tups ++ ((I, o) :: (dl, listOf ws.toArray 0) :: rest)) its (List.replicate (kOf t) dotQ) ∧ StrsAre lines (lnsOf t) ∧ (∀ p ∈ tups, ac < p.1) ∧ TriplesOk a.toList ∧ TriplesOk b.toList) hR (range_small (by omega)) (range_size T) rfl rfl rfl rfl ?w1 M7 ?w2 ⟨[], [], 0, 0, t0, a, b, [], rfl, .nil, .nil, by simp, hta, htb⟩ ?w3 ?w4
      case w1 => k_asm
      case w2 => assumption
      case w3 =>
        rintro Ir tt ttk uu nx or s2 hIr htt ⟨lines, its, nl, n1, t0', a2, b2, tups, rfl, hqq, htx, hfr, hta2, htb2⟩ hoff2 F2' N2' G2' o2'
        have hIf : f < Ir := hIr (f, fmtO fd) (by k_mem)
        have hIfd : fd < Ir := hIr (fd, fdO hs tkn 2 (".":Str) ls ac) (by k_mem)
        have hIls : ls < Ir := hIr (ls, listOf [].toArray 0) (by k_mem)
        have hIac : ac < Ir := hIr (ac, accO 195 ad [].toArray 0) (by k_mem)
        have hIad : ad < Ir := hIr (ad, dictOf [⟨h1, .str "_initial_size" t1, .int 0 t0⟩] 1) (by k_mem)
        k_steps
        rename News _ _ _ _ => N6
        have M6 := cb_drop (news := ((f, fmtO fd) :: (fd, fdO hs tkn 2 (".":Str) ls ac) :: (ls, listOf lines.toArray nl) :: (ac, accO 195 ad its.toArray n1) :: (ad, dictOf [⟨h1, .str "_initial_size" t1, .int 0 t0'⟩] 1) :: (157, tabO a2) :: (164, tabO b2) :: ((Ir, or) :: (tups ++ ((I, o) :: (dl, listOf ws.toArray 0) :: rest))))) N6 (by (intro p hp; (repeat (rcases List.mem_cons.mp hp with rfl | hp; · k_mem)); k_mem)); clear N6
        have hrr := hr_of (X := (Ir, or) :: (tups ++ ((I, o) :: (dl, listOf ws.toArray 0) :: rest))) l164 of1 of2 of3 of4 (fun p hp => by
          rcases List.mem_cons.mp hp with rfl | hp
          · exact .inr hIac
          rcases List.mem_append.mp hp with hp | hp
          · exact .inr (hfr p hp)
          · exact .inl (hRf p hp))
        (refine' c_turn (t := tt) (mw := 2) (lines := lines) (its := its) (ls := ls) (ac := ac) ?k1 ?k2 ?k3 ?k4 ?k5 ?k6 rfl ?k8 ?k9 ⟨l164, of1, of2, of3, of4⟩ hrr (by omega) rfl G2' hta2 htb2 (hqq.mono fun p hp => .tail _ hp) htx ?_; (case k1 => k_asm); (case k2 => k_asm); (case k3 => k_asm); (case k4 => k_asm); (case k5 => k_asm); (case k6 => k_asm); (case k8 => ktr_room); (case k9 => ktr_units))
        intro s3 tp lines' its' nl' n1' t0'' a3 b3 hta3 htb3 F3' N3' hlt3 G3' o3' hq3 htx3
        k_steps
        have htp : ac < tp := hlt3 (ac, accO 195 ad its.toArray n1) (by k_mem)
        have htpI : Ir < tp := hlt3 (Ir, or) (by k_mem)
        rename Fr _ _ _ (fun _ => _) => F5'
        rename News _ _ _ _ => N5'
        have hfrI : ∀ p ∈ (tups ++ ((I, o) :: (dl, listOf ws.toArray 0) :: rest)), p.1 ≠ Ir := fun p hp => hoff2 p (.tail _ (.tail _ (.tail _ (.tail _ (.tail _ (.tail _ (.tail _ hp)))))))
        refine' TurnZ.next ((f, fmtO fd) :: (fd, fdO hs tkn 2 (".":Str) ls ac) :: (ls, listOf lines'.toArray nl') :: (ac, accO 195 ad its'.toArray n1') :: (ad, dictOf [⟨h1, .str "_initial_size" t1, .int 0 t0''⟩] 1) :: (157, tabO a3) :: (164, tabO b3) :: (((tp, tupO (.str "" _) (.str "." _)) :: tups) ++ ((I, o) :: (dl, listOf ws.toArray 0) :: rest))) F5' N5' ?x1 ?x2 G3' (o3'.trans o2') ?x3 ⟨lines', its', nl', n1', t0'', a3, b3, (tp, tupO (.str "" _) (.str "." _)) :: tups, rfl, hq3 _ (hqq.mono fun p hp => .tail _ hp) (.head _), htx3, ?x4, hta3, htb3⟩
        case x1 =>
          intro p hp
          repeat (rcases List.mem_cons.mp hp with rfl | hp; · k_mem)
          exact .tail _ (.tail _ (.tail _ (.tail _ (.tail _ (.tail _ (.tail _ (.tail _ (.tail _ hp))))))))
        case x2 =>
          intro p hp
          repeat (rcases List.mem_cons.mp hp with rfl | hp; · first | exact Nat.ne_of_lt hIf | exact Nat.ne_of_lt hIfd | exact Nat.ne_of_lt hIls | exact Nat.ne_of_lt hIac | exact Nat.ne_of_lt hIad | exact hoff2 (157, tabO a2) (by k_mem) | exact hoff2 (164, tabO b2) (by k_mem) | exact Nat.ne_of_gt htpI)
          exact hfrI p hp
        case x3 =>
          intro y hy
          have q1 := nin (a := "turn") hy rfl
          simp only [if_neg q1, frOf, hy, Bool.false_eq_true, if_false]
        case x4 =>
          intro p hp
          rcases List.mem_cons.mp hp with rfl | hp
          · exact htp
          · exact hfr p hp
      case w4 =>
        rintro uu nx s2 ⟨lines, its, nl, n1, t0', a2, b2, tups, rfl, hqq, htx, hfr, hta2, htb2⟩ F2' N2' G2' o2'
        obtain ⟨y, z, rows, hy, hz, hsp, hrl, hr64, hsok, hcnt⟩ := send_of (sendB_ok T hlt5 sep hsep)
        have hrr := hr_of (X := tups ++ ((I, o) :: (dl, listOf ws.toArray 0) :: rest)) l164 of1 of2 of3 of4 (fun p hp => by
          rcases List.mem_append.mp hp with hp | hp
          · exact .inr (hfr p hp)
          · exact .inl (hRf p hp))
        k_steps
        (refine' c_sent (t := T) (mw := 2) (lines := lines) (its := its) (ls := ls) (ac := ac) ?k1 ?k2 ?k3 ?k4 ?k5 ?k6 rfl ?k8 ?k9 ⟨l164, of1, of2, of3, of4⟩ hrr hlt5 G2' hta2 htb2 (sepsL_len sep hsep) hqq htx ?_; (case k1 => k_asm); (case k2 => k_asm); (case k3 => k_asm); (case k4 => k_asm); (case k5 => k_asm); (case k6 => k_asm); (case k8 => ktr_room); (case k9 => ktr_units))
        intro s3 t3 a3 b3 hta3 htb3 F3' N3' G3' o3'
        k_steps
        (refine' c_quote (x := textOf T sep) ?k1 ?k2 ?k3 ?k4 ?k5 ?k6 rfl ?k8 ?k9 hy hz ?_; (case k1 => k_asm); (case k2 => k_asm); (case k3 => k_asm); (case k4 => k_asm); (case k5 => k_asm); (case k6 => k_asm); (case k8 => ktr_room); (case k9 => ktr_units))
        intro h4 tk4 t4 F4' N4'
        k_steps
        (refine' c_kinds (rows := rows) ?k1 ?k2 ?k3 ?k4 ?k5 ?k6 rfl ?k8 ?k9 hsp hr64 hrl hsok ?G ?_; (case k1 => k_asm); (case k2 => k_asm); (case k3 => k_asm); (case k4 => k_asm); (case k5 => k_asm); (case k6 => k_asm); (case k8 => ktr_room); (case k9 => ktr_units))
        case G => assumption
        intro l7 vs7 c7 s7 hi7 F7' N7' l77 G7 o7
        k_steps
        rename Fr _ _ _ (fun _ => _) => F9'
        rename News _ _ _ _ => N9'
        have hledS : ledF ((digitsF 4 number).reverse.take (i + 1)) = ledF ((digitsF 4 number).reverse.take i) + addOf T := by
          rw [List.take_add_one, hfig, ← hT]
          simp [ledF]
        rw [hcnt, ← Int.natCast_add, ← hledS] at F9'
        refine' TurnR.next ((dl, listOf ws.toArray 0) :: (157, tabO a3) :: (164, tabO b3) :: rest) F9' N9' ?x1 ?x2 G7 (o7.trans (o3'.trans (o2'.trans o₁))) rfl ?x3 ⟨_, a3, b3, rfl, rfl, hta3, htb3⟩
        case x1 =>
          intro p hp
          rcases List.mem_cons.mp hp with rfl | hp
          · exact List.mem_cons_of_mem _ (List.mem_cons_of_mem _ (List.mem_cons_of_mem _ (List.mem_append_right _ (.head _))))
          rcases List.mem_cons.mp hp with rfl | hp
          · exact List.mem_cons_of_mem _ (List.mem_cons_of_mem _ (List.mem_cons_of_mem _ (List.mem_append_right _ (.tail _ (.head _)))))
          rcases List.mem_cons.mp hp with rfl | hp
          · k_mem
          rcases List.mem_cons.mp hp with rfl | hp
          · k_mem
          · exact List.mem_cons_of_mem _ (List.mem_cons_of_mem _ (List.mem_cons_of_mem _ (List.mem_append_right _ (.tail _ (.tail _ hp)))))
        case x2 =>
          intro p hp
          rcases List.mem_cons.mp hp with rfl | hp
          · exact hoff (dl, _) (.head _)
          rcases List.mem_cons.mp hp with rfl | hp
          · exact hoff (157, tabO a) (.tail _ (.head _))
          rcases List.mem_cons.mp hp with rfl | hp
          · exact hoff (164, tabO b) (.tail _ (.tail _ (.head _)))
          · exact hoff p (.tail _ (.tail _ (.tail _ hp)))
        case x3 =>
          intro y hy
          obtain ⟨h1, h2⟩ := Bool.or_eq_false_iff.mp hy
          have q1 := beq_eq_false_iff_ne.mp h1
          have q2 := nin (a := "figure") h2 rfl
          have q3 := nin (a := "formatter") h2 rfl
          have q4 := nin (a := "turn") h2 rfl
          have h3 : (["turn"] : List Str).contains y = false := cont_sub h2 (by decide +kernel)
          simp only [if_neg q1, if_neg q2, if_neg q3, if_neg q4, frOf, h2, h3, Bool.false_eq_true, if_false]
    case q6 =>
      rintro vr u nx s₁ ⟨t, a, b, rfl, rfl, hta, htb⟩ F₁ N₁ G₁ o₁
      k_steps
      rename News h₀ _ _ _ => N5
      have hsz : ws.toArray.size = ((digitsF 4 number).reverse).length := by rw [List.size_toArray, hir.length, List.length_map]
      rw [hsz, List.take_length]
      exact hret _ _ a b hta htb (by k_asm) (led_tail N5) G₁ (o₁.trans o1)
  · rw [show ((k : Int) == 0) = false from beq_eq_false_iff_ne.mpr (by omega)]
    have hk64 : k < 64 := by omega
    k_steps
    (refine' c_kinds (rows := [k]) ?k1 ?k2 ?k3 ?k4 ?k5 ?k6 rfl ?k8 ?k9 (split_dots k hk64) (by simp; omega) (by simp) (splitOk_dots k hk64) ?G ?_; (case k1 => k_asm); (case k2 => k_asm); (case k3 => k_asm); (case k4 => k_asm); (case k5 => k_asm); (case k6 => k_asm); (case k8 => ktr_room); (case k9 => ktr_units))
    case G => assumption
    intro l7 vs7 c7 s7 hi7 F7 N7' l77 G7 o7
    (try k_lt l77)
    k_steps
    rename Fr _ _ _ _ => F4
    rename News _ _ _ _ => N4
    simp only [List.push_toArray] at N4
    rw [count23 k hk64] at N4
    rw [count52 k hk64] at F4
    obtain ⟨tf, N5⟩ : ∃ tf : Tok, News _ _ _ ((fl, listOf (vs ++ [Value.int ((k % 3 : Nat) : Int) tf]).toArray (c + 1)) :: (157, tabO p1) :: (164, tabO p2) :: rest) := ⟨_, led_tail N4⟩
    obtain ⟨j', rfl⟩ : ∃ j', j = j' + 1 := by
      cases j with
      | zero => rw [Nat.pow_zero] at hk3; omega
      | succ j' => exact ⟨j', rfl⟩
    have hlen : (vs ++ [Value.int ((k % 3 : Nat) : Int) tf]).length = vs.length + 1 := by rw [List.length_append]; rfl
    refine' GTurn.next (n' := k / 3) _ F4 N5 (fun p hp => hp) ?e1 rfl ?e3 G7 (o7.trans o1) ⟨vs ++ [Value.int ((k % 3 : Nat) : Int) tf], c + 1, _, ds ++ [k % 3], j', rfl, rfl, ?e4, ?e5, ?e6, ?e7, ?e8⟩
    case e1 => omega
    case e3 =>
      intro y hy
      obtain ⟨h1, h2⟩ := Bool.or_eq_false_iff.mp hy
      have q1 := beq_eq_false_iff_ne.mp h1
      have q2 := nin (a := "kinds") h2 rfl
      simp only [if_neg q1, if_neg q2, frOf, h2, Bool.false_eq_true, if_false]
    case e4 => rw [List.map_append]; exact ints_snoc hi
    case e5 => rw [← hds, digitsF, if_neg hk0, List.append_assoc]; rfl
    case e6 => rw [Nat.pow_succ] at hk3; omega
    case e7 => omega
    case e8 => omega
end

section
local macro_rules | `(tactic| walk_at "pad") => `(tactic| fail)
local macro_rules | `(tactic| walk_at "kK") => `(tactic| first | assumption | exact rfl)
noncomputable abbrev putScope : Scope := { kind := .function, names := [(Str.ofString "last", NameKind.local), (Str.ofString "classes", NameKind.cell), (Str.ofString "number", NameKind.cell), (Str.ofString "barred", NameKind.local), (Str.ofString "pick", NameKind.local), (Str.ofString "range", NameKind.globalImplicit)], isGenerator := false, isCoroutine := false, more := [(Str.ofString "fast", Const.str (Str.ofString "last")), (Str.ofString "fast", Const.str (Str.ofString "classes")), (Str.ofString "fast", Const.str (Str.ofString "number")), (Str.ofString "fast", Const.str (Str.ofString "step")), (Str.ofString "fast", Const.str (Str.ofString "barred")), (Str.ofString "fast", Const.str (Str.ofString "pick"))] }
noncomputable abbrev putComp : Scope := { kind := .function, names := [(Str.ofString ".0", NameKind.local), (Str.ofString "step", NameKind.local), (Str.ofString "classes", NameKind.free), (Str.ofString "number", NameKind.free)], isGenerator := false, isCoroutine := false }
noncomputable abbrev putEnv (C L5 c1 c2 : Addr) : Env := compEnvC putComp [(Str.ofString "number", c1), (Str.ofString "classes", c2)] C (envOfC (Str.ofString "_law_put") putScope L5 245 (.ref 244))
theorem put_item {prog : Program} {w : World} {A : Around} {E : Value → Shared → Prop} {s : Shared} {value slice : Expr} {l : Addr} {vs : List Value} {ns : List Int} {k : Int} {u : Tok} {Q : Value → Shared → Prop} (hl : s.heap.IsList l vs.toArray) (hi : IntsAre vs ns) (h0 : 0 ≤ k) (hk : k < ns.length) (hf : ns.length < 1000)
    (h : ∀ t', Q (.int (ns.getD k.toNat 0) t') s)
    (hs : subscripted slice false (.ref l) (.int k u) = operate [.ref l, .int k u] (getItem (.ref l) (.int k u))) :
    wpAny (model prog w) A (subscriptTail value slice (.ref l) (.int k u)) Q E s := by
  have hlt : k.toNat < ns.length := by omega
  obtain ⟨t', ht'⟩ := hi.get k.toNat ns[k.toNat] (by simp [hlt])
  have e : ns.getD k.toNat 0 = ns[k.toNat] := by simp [List.getD_eq_getElem?_getD, hlt]
  refine tail_any hl.typeIs slot_list_getitem.lookup (wpAny_getItem_list hl h0 (by omega) (by simpa using ht') ?_) hs
  rw [← e]
  exact h t'
theorem put_elt {prog : Program} {w : World} {A : Around} {E' : Value → Shared → Prop} {s₂ : Shared} {C L5 c1 c2 cls : Addr} {m₂ : Str → Option Value} {vs : List Value} {ns : List Int} {i st : Int} {tt t : Tok} {p1 p2 p3 p4 p5 : Pos}
    (hn : s₂.heap.Ns C m₂) (hm : m₂ "step" = some (.int st t)) (h1 : s₂.heap.IsCell c1 (some (.int i tt))) (h2 : s₂.heap.IsCell c2 (some (.ref cls))) (hl : s₂.heap.IsList cls vs.toArray) (hi : IntsAre vs ns)
    (hlo : 0 ≤ i - st) (hhi : i - st < ns.length) (hf : i < 1000 ∧ 0 ≤ st ∧ ns.length < 1000) :
    wpAny (model prog w) A (eval ((Expr.Name (Str.ofString "classes") p1).Subscript ((Expr.Name (Str.ofString "number") p2).BinOp .Sub (Expr.Name (Str.ofString "step") p3) p4) p5) (putEnv C L5 c1 c2))
      (fun v s₃ => (∃ t', v = .int (ns.getD (i - st).toNat 0) t') ∧ Keeps s₂ s₃) E' s₂ := by
  walk1
  refine wpAny_Name (wpAny_loadName_cell rfl rfl rfl h2 ?_) (by decide)
  walk1
  refine wpAny_Name (wpAny_loadName_cell rfl rfl rfl h1 ?_) (by decide)
  walk1
  walk1
  refine put_item (s := ⟨_, _, _, _, _⟩) hl hi hlo hhi hf.2.2 (fun t' => ?_) (by with_unfolding_all rfl)
  exact ⟨⟨t', rfl⟩, _, _, rfl, fun _ _ e => e⟩
theorem put_test {prog : Program} {w : World} {A : Around} {E' : Value → Shared → Prop} {s₂ : Shared} {C L5 c1 c2 cls : Addr} {m₂ : Str → Option Value} {vs : List Value} {ns : List Int} {i st : Int} {tt t : Tok} {p1 p2 p3 p4 p5 q1 q2 q3 q4 q5 q6 q7 q8 : Pos}
    (hn : s₂.heap.Ns C m₂) (hm : m₂ "step" = some (.int st t)) (h1 : s₂.heap.IsCell c1 (some (.int i tt))) (h2 : s₂.heap.IsCell c2 (some (.ref cls))) (hl : s₂.heap.IsList cls vs.toArray) (hi : IntsAre vs ns)
    (hlo : 0 ≤ i - 2 * st) (hhi : i - st < ns.length) (hf : i < 1000 ∧ 0 ≤ st ∧ ns.length < 1000) (hs1 : 1 ≤ st) :
    wpAny (model prog w) A (isTrue (((Expr.Name (Str.ofString "classes") p1).Subscript ((Expr.Name (Str.ofString "number") p2).BinOp .Sub (Expr.Name (Str.ofString "step") p3) p4) p5).Compare [CmpOp.Eq] [(Expr.Name (Str.ofString "classes") q1).Subscript ((Expr.Name (Str.ofString "number") q2).BinOp .Sub ((Expr.Constant (Const.int 2) 0 q3).BinOp .Mult (Expr.Name (Str.ofString "step") q4) q5) q6) q7] q8) (putEnv C L5 c1 c2)
      (eval (((Expr.Name (Str.ofString "classes") p1).Subscript ((Expr.Name (Str.ofString "number") p2).BinOp .Sub (Expr.Name (Str.ofString "step") p3) p4) p5).Compare [CmpOp.Eq] [(Expr.Name (Str.ofString "classes") q1).Subscript ((Expr.Name (Str.ofString "number") q2).BinOp .Sub ((Expr.Constant (Const.int 2) 0 q3).BinOp .Mult (Expr.Name (Str.ofString "step") q4) q5) q6) q7] q8) (putEnv C L5 c1 c2)))
      (fun ok s₃ => ok = decide (ns.getD (i - st).toNat 0 = ns.getD (i - 2 * st).toNat 0) ∧ Keeps s₂ s₃) E' s₂ := by
  walk1
  walk1
  refine wpAny_Name (wpAny_loadName_cell rfl rfl rfl h2 ?_) (by decide)
  walk1
  refine wpAny_Name (wpAny_loadName_cell rfl rfl rfl h1 ?_) (by decide)
  walk1
  walk1
  refine put_item (s := ⟨_, _, _, _, _⟩) hl hi (by omega) hhi hf.2.2 (fun t' => ?_) (by with_unfolding_all rfl)
  walk1
  refine wpAny_Name (wpAny_loadName_cell rfl rfl rfl h2 ?_) (by decide)
  walk1
  refine wpAny_Name (wpAny_loadName_cell rfl rfl rfl h1 ?_) (by decide)
  walk1
  walk1
  walk1
  walk1
  walk1
  refine put_item (s := ⟨_, _, _, _, _⟩) hl hi hlo (by omega) hf.2.2 (fun t' => ?_) (by with_unfolding_all rfl)
  walk1
  walk1
  exact ⟨by rw [Bool.eq_iff_iff]; simp, _, _, rfl, fun _ _ e => e⟩
end

section
local macro_rules | `(tactic| walk_at "pad") => `(tactic| fail)
local macro_rules | `(tactic| walk_at "pad") => `(tactic| fail)
local macro_rules | `(tactic| walk_at "kK") => `(tactic| first | assumption | exact rfl)
noncomputable def putP : List Nat := [0, 0, 1, 0, 0, 1, 1, 2, 2, 0, 0, 1, 0, 0, 1, 1, 2, 2, 1, 2, 2, 3, 3, 4, 3, 3, 4, 0, 0, 1, 0, 0, 1, 1, 2, 2, 0, 0, 1, 0, 0, 1, 1, 2, 2, 1, 2, 2, 3, 3, 4, 3, 3, 4, 1, 2, 2, 3, 3, 4, 3, 3, 4, 4]
theorem led_put : (List.range 64).map ledT = putP := by decide +kernel
noncomputable def putZ : List Int := putP.map fun d => ((d : Nat) : Int)
local macro_rules | `(tactic| walk_at "exec While") => `(tactic| (k_here; refine hold ?_))
local macro_rules | `(tactic| walk_at "exec For Name Call cons nil") => `(tactic| (k_here; k_dflt (refine For_Z ?_)))
local macro_rules | `(tactic| ks_enter) => `(tactic| (refine' code_defCR ?k1 ?k2 ?k3 ?k4 ?k5 ?kM ?kA ?kF ?kK ?k6 ?k7 ?k8 ?k9 ?kB ?kD ?_ ?c2 ?c3 ?c4; (case kA => exact rfl); (case kF => exact rfl); (case kK => first | assumption | exact rfl); (case k1 => k_asm); (case k2 => k_asm); (case k3 => k_asm); (case k4 => k_asm); (case k5 => k_asm); (case kM => k_asm); (case k6 => k_is); (case k7 => k_is); (case k8 => ktr_room); (case k9 => first | exact BindsTo.of_eq rfl | exact binds_K (by k_in) rfl (by k_is) rfl rfl rfl); (case kB => exact rfl); (case kD => decide +kernel); (case c2 => exact rfl); (case c3 => exact rfl); (case c4 => exact rfl); k_whole; intro g' L' h' tk' cells' FG' F' N' Y' B' X' T' BM' l1; (try k_lt l1); k_cells Y'; (try simp only [List.cons_append, List.nil_append] at N'); (try dsimp only); (try k_lift B'); (try k_fold)))
local macro_rules | `(tactic| walk_at "exec Assign cons ListComp") => `(tactic| (k_here; refine hold ?_))
theorem led_drop2 {h₀ h : Heap} {L : Addr} {a b c : Addr × Obj} {news : List (Addr × Obj)} (N : News h₀ L h (a :: b :: c :: news)) : News h₀ L h (a :: news) := fun p hp => by
  rcases List.mem_cons.mp hp with rfl | hp
  · exact N _ (.head _)
  · exact N p (.tail _ (.tail _ (.tail _ hp)))
theorem allLt_mem {d : Nat} : ∀ {l : List (Addr × Obj)}, AllLt d l → ∀ p ∈ l, @LT.lt Nat _ p.1 d
  | [], _, _, h => nomatch h
  | _ :: _, x, p, h => by
    rcases List.mem_cons.mp h with rfl | h
    · exact x.1
    · exact allLt_mem x.2 p h
noncomputable def barZ (i : Nat) : List Int := ((rangeInts 1 1 (i / 2)).filter fun st => decide ((putZ.take i).getD ((i : Int) - st).toNat 0 = (putZ.take i).getD ((i : Int) - 2 * st).toNat 0)).map fun st => (putZ.take i).getD ((i : Int) - st).toNat 0
theorem bar_facts : ∀ i < 64, (∀ q < putP.getD i 0, ((q : Nat) : Int) ∈ barZ i) ∧ ¬ ((putP.getD i 0 : Nat) : Int) ∈ barZ i ∧ (putZ.take i).length = i ∧ (barZ i).length ≤ 64 ∧ putZ.take (i + 1) = putZ.take i ++ [((putP.getD i 0 : Nat) : Int)] := by decide +kernel
local macro_rules | `(tactic| walk_at "call builtin:list.append") => `(tactic| (k_here; (with_reducible show wpAny _ _ (call (Value.builtin _) [Value.ref _, _]) _ _ _); k_dflt (refine' append_K ?k1 ?k2 ?k3 ?_ ?z; (case k1 => k_asm); (case k2 => k_asm); (case k3 => k_upd); (case z => (rw [List.size_toArray, sizeLine_eq]; omega)); k_whole); intro h' F' N'))
theorem c_put {last : Nat} {tl : Tok}
   (B : Below A₀ base outer h₀) (F : Fr h₀ L s.heap m) (KX : (hd.heap_1 w.params).In h₀) (N : News h₀ L s.heap news) (T : TopRead p loose mg mb h₀) (BM : BMain mg h₀) (hk : cs.kind = .function) (hdp : dp + 20 < recursionLimit) (hu : un + 200 < cLine)
   (hl64 : last < 64) (G : AllBare s.gens)
   (hret : ∀ l vs c s', IntsAre vs (putZ.take (last + 1)) → Fr h₀ L s'.heap m → News h₀ L s'.heap ((l, listOf vs.toArray c) :: news) → (∀ p ∈ news, p.1 < l) → AllBare s'.gens → s'.os = s.os → Q (.ref l) s') :
   wpAny (model PySem.Challenge.rw_tc0049_01.prog w) (ktrTop dp un gd cn cs L a ccd cl outer) (call (.ref 245) [.int (last : Nat) tl] []) Q E s := by
  revert KX; k_fill; intro KX; refine wpAny_call ?_
  k_dflt ks_enter
  rename Fr _ _ _ (bindL _ _ _) => F5
  obtain ⟨L5, e5⟩ := fr_name F5
  subst e5
  rename ∀ p ∈ news, p.1 < L5 => l5
  have r1 : ∀ p ∈ news, p.1 ≠ L5 + 1 + 1 := fun p hp => Nat.ne_of_lt (Nat.lt_of_lt_of_le (l5 p hp) (Nat.le_trans (Nat.le_succ _) (Nat.le_succ _)))
  have r2 : ∀ p ∈ news, p.1 ≠ L5 + 1 := fun p hp => Nat.ne_of_lt (Nat.lt_of_lt_of_le (l5 p hp) (Nat.le_succ _))
  k_steps
  rename IsRange _ _ _ _ _ _ _ _ => hR
  rename Fr _ _ _ (bindL _ _ _) => F7
  rename News _ _ _ _ => N7
  obtain ⟨cls, ecls⟩ := led_name N7
  subst ecls
  rw [show ((last : Nat) : Int) + 1 = ((last + 1 : Nat) : Int) by omega] at hR
  rename Obj.data _ = .cell (some (.ref cls)) => hdc
  rename _ ∧ _ ∧ AllLt cls news => lcl
  have hclt : ∀ p ∈ news, p.1 < cls := allLt_mem lcl.2.2
  have hcls : ∀ p ∈ news, p.1 ≠ cls := fun p hp => Nat.ne_of_lt (hclt p hp)
  refine' forT_range (n := last + 1) ["barred", "pick"] (fun i nx => ∃ (vs : List Value) (c : Nat) (oa ob : Obj) (z : Option Value), nx = ((cls, listOf vs.toArray c) :: (L5 + 1 + 1, oa) :: (L5 + 1, ob) :: news) ∧ oa.data = .cell z ∧ ob.data = .cell (some (.ref cls)) ∧ IntsAre vs (putZ.take i)) hR (range_small (by omega)) (range_size _) rfl (by intro _ _; rfl) F7 N7 G ⟨[], 0, _, _, _, rfl, by assumption, hdc, .nil⟩ ?w3 ?w4
  case w3 =>
    rintro I i tt u nx o s₁ hI hi ⟨vs, c, oa, ob, z, rfl, hza, hzb, hvs⟩ hoff F₁ N₁ G₁ o₁
    have hi64 : i < 64 := by omega
    rw [Int.zero_add]
    have hI9 := hI
    (try k_lt hI9)
    k_steps
    rename Fr _ _ _ _ => F9
    rename News _ _ _ _ => N9
    obtain ⟨oz, hoz, N8⟩ : ∃ oz : Obj, oz.data = .cell (some (.int (i : Nat) tt)) ∧ News _ _ _ ((I, o) :: (cls, listOf vs.toArray c) :: (L5 + 1 + 1, oz) :: (L5 + 1, ob) :: news) := ⟨_, by assumption, N9⟩
    obtain ⟨b1, b2, b3, b4, b5⟩ := bar_facts i hi64
    refine' comp_rng (n₀ := i / 2) (fun st => decide ((putZ.take i).getD ((i : Int) - st).toNat 0 = (putZ.take i).getD ((i : Int) - 2 * st).toNat 0)) (fun st => (putZ.take i).getD ((i : Int) - st).toNat 0) F9 N8 ?c1 rfl ?c2 ?c3 ?c4 ?c5 ?c6 ?c7 ?c8 (by omega) ?c9 ?c11 ?c12 ?c13 ?c10
    case c1 => rfl
    case c2 => rfl
    case c3 => decide
    case c4 => rfl
    case c5 => decide
    case c6 => rfl
    case c7 => rfl
    case c8 => rfl
    case c10 => intro _; rfl
    case c9 =>
      k_steps
      · rw [Int.fdiv_eq_ediv_of_nonneg _ (by decide)]; omega
      · k_asm
      · k_asm
    case c11 =>
      intro C k tk9 s₂ m₂ E' hk hn hm hk2
      exact put_test hn hm ⟨oz, hk2 (L5 + 1 + 1, oz) (by k_mem), hoz⟩ ⟨ob, hk2 (L5 + 1, ob) (by k_mem), hzb⟩ ⟨_, hk2 (cls, _) (by k_mem), rfl, _, rfl⟩ hvs (by omega) (by rw [b3]; omega) ⟨by omega, by omega, by rw [b3]; omega⟩ (by omega)
    case c12 =>
      intro C k tk9 s₂ m₂ E' hk hn hm hk2
      exact put_elt hn hm ⟨oz, hk2 (L5 + 1 + 1, oz) (by k_mem), hoz⟩ ⟨ob, hk2 (L5 + 1, ob) (by k_mem), hzb⟩ ⟨_, hk2 (cls, _) (by k_mem), rfl, _, rfl⟩ hvs (by omega) (by rw [b3]; omega) ⟨by omega, by omega, by rw [b3]; omega⟩
    case c13 =>
      intro D ys c9 s9 F6 N6 hD hys hg9 ho9
      have hys' : IntsAre ys (barZ i) := hys
      have hDn : ∀ p ∈ news, p.1 ≠ D := fun p hp => hD p (by k_mem)
      k_steps
      rename Fr _ _ _ _ => F5'
      rename News _ _ _ _ => N5'
      refine whileZ (n₀ := putP.getD i 0) (v₀ := .int 0 _) "pick" [] (fun n v nx => ∃ (t : Tok) (q : Nat), v = .int (q : Nat) t ∧ nx = ((D, listOf ys.toArray c9) :: (I, o) :: (cls, listOf vs.toArray c) :: (L5 + 1 + 1, oz) :: (L5 + 1, ob) :: news) ∧ q + n = putP.getD i 0) F5' N5' rfl ⟨_, 0, rfl, rfl, by omega⟩ ?_
      rintro n v u' nx h3 tk3 ⟨t3, q, rfl, rfl, hq⟩ F3 N3
      have hvl : vs.length = i := by rw [hvs.length, b3]
      have hDc : D ≠ cls := fun e => hD (cls, listOf vs.toArray c) (by k_mem) e.symm
      have hDI : D ≠ I := fun e => hD (I, o) (by k_mem) e.symm
      k_steps
      · rename (List.any _ _) = true => hany
        have hmem : ((q : Nat) : Int) ∈ barZ i := by
          obtain ⟨x, hx, e⟩ := List.any_eq_true.mp hany
          rw [← beq_iff_eq.mp e]; exact hx
        have hqp : q ≠ putP.getD i 0 := fun e => b2 (e ▸ hmem)
        rename Fr _ _ _ _ => F6'
        rename News _ _ _ _ => N6'
        refine' WTurn.next (n' := n - 1) (v' := .int ((q + 1 : Nat) : Int) _) _ F6' N6' (fun p hp => hp) ?z1 ?z2 ?z3 ⟨_, q + 1, rfl, rfl, ?z4⟩
        case z1 => omega
        case z2 => exact rfl
        case z3 =>
          intro y hy
          obtain ⟨h1, h2⟩ := Bool.or_eq_false_iff.mp hy
          have q1 := beq_eq_false_iff_ne.mp h1
          simp only [if_neg q1, frOf, h2, Bool.false_eq_true, if_false]
        case z4 => omega
      · rename (List.any _ _) = false => hany
        have hnm : ¬ ((q : Nat) : Int) ∈ barZ i := fun hm => by
          rw [List.any_eq_false] at hany
          exact hany _ hm (beq_self_eq_true _)
        have hqp : q = putP.getD i 0 := by
          rcases Nat.lt_or_ge q (putP.getD i 0) with h | h
          · exact absurd (b1 q h) hnm
          · omega
        k_steps
        rename Fr _ _ _ _ => F6'
        rename News _ _ _ _ => N6'
        simp only [List.push_toArray] at N6'
        refine' TurnZ.next ((cls, listOf (vs ++ [Value.int (q : Nat) t3]).toArray (c + 1)) :: (L5 + 1 + 1, oz) :: (L5 + 1, ob) :: news) F6' N6' ?y1 ?y2 ?y3 ?y4 ?y5 ⟨_, _, oz, ob, _, rfl, hoz, hzb, ?y6⟩
        case y1 => intro p hp; (repeat (rcases List.mem_cons.mp hp with rfl | hp; · k_mem)); k_mem
        case y2 =>
          intro p hp
          rcases List.mem_cons.mp hp with rfl | hp
          · exact hoff (cls, listOf vs.toArray c) (by k_mem)
          rcases List.mem_cons.mp hp with rfl | hp
          · exact hoff (L5 + 1 + 1, oa) (by k_mem)
          rcases List.mem_cons.mp hp with rfl | hp
          · exact hoff (L5 + 1, ob) (by k_mem)
          · exact hoff p (by k_mem)
        case y3 => rw [show _ = s₁.gens from hg9]; exact G₁
        case y4 => exact ho9.trans o₁
        case y5 =>
          intro y hy
          have q1 := nin (a := "barred") hy rfl
          have q2 := nin (a := "pick") hy rfl
          have h3 : ([] : List Str).contains y = false := rfl
          simp only [if_neg q1, if_neg q2, frOf, hy, h3, Bool.false_eq_true, if_false]
        case y6 => rw [b5, ← hqp]; exact ints_snoc hvs
  case w4 =>
    rintro u nx s₁ ⟨vs, c, oa, ob, z, rfl, hza, hzb, hvs⟩ F₁ N₁ G₁ o₁
    k_steps
    rename News h₀ _ _ _ => N5
    exact hret cls vs c _ hvs (by k_asm) (led_drop2 N5) hclt G₁ o₁
end

end
end
section
local macro_rules | `(tactic| walk_at "exec For Name Name cons nil") => `(tactic| (k_here; k_dflt (refine For_Z ?_)))
local macro_rules | `(tactic| walk_at "subscriptTail Name Name ref int") => `(tactic| (k_here; refine hold ?_))
local macro_rules | `(tactic| walk_at "subscriptTail List Slice ref ref") => `(tactic| (k_here; refine hold ?_))
local macro_rules | `(tactic| walk_at "exec Assign cons ListComp") => `(tactic| (k_here; (with_reducible show wpAny _ _ (exec (Stmt.Assign _ (Expr.ListComp _ [⟨_, Expr.BinOp _ _ _ _, _, _⟩] _ _) _) _) _ _ _); refine hold ?_))
theorem news_two {h₀ g h : Heap} {L : Addr} {a b : Addr × Obj} {news : List (Addr × Obj)} (N : News h₀ L h news) (N8 : News g L h [a, b]) (dn : ∀ c o, g.get? c = some o → h₀.get? c = some o) : News g L h (a :: b :: news) := fun q hq => by
  rcases List.mem_cons.mp hq with rfl | hq
  · exact N8 _ (.head _)
  rcases List.mem_cons.mp hq with rfl | hq
  · exact N8 _ (.tail _ (.head _))
  · refine ⟨(N q hq).1, (N q hq).2.1, ?_⟩
    cases e : g.get? q.1 with
    | none => rfl
    | some o => have := dn _ _ e; rw [(N q hq).2.2] at this; cases this
theorem put_led : ∀ k < 64, putZ.getD k 0 = ((ledT k : Nat) : Int) := by decide +kernel
theorem hd157 (w : World) : codeHdIn (hd.heap_1 w.params) 161 157 = true := by kernel_rfl
theorem hd164 (w : World) : codeHdIn (hd.heap_1 w.params) 168 164 = true := by kernel_rfl
theorem led_one {h₀ h : Heap} {L : Addr} {p : Addr × Obj} {news : List (Addr × Obj)} (N : News h₀ L h (p :: news)) : News h₀ L h [p] := fun q hq => N q (by rw [List.mem_singleton.mp hq]; exact .head _)
theorem list_not_tab {h : Heap} {a t : Addr} {its ps : Array Value} (hl : h.IsList a its) (ht : h.get? t = some (tabO ps)) : a ≠ t := fun e => by
  obtain ⟨o, ho, hc, _⟩ := hl
  rw [e, ht] at ho
  rw [← Option.some.inj ho] at hc
  cases hc
theorem no157 (w : World) : ((hd.heap_1 w.params).lookup 157).isNone = true := by kernel_rfl
theorem no164 (w : World) : ((hd.heap_1 w.params).lookup 164).isNone = true := by kernel_rfl
set_option maxHeartbeats 300000 in
theorem law_holds : PySem.Challenge.rw_tc0049_01.Holds := by
  w_on
  refine hd ⟨left_all, ?_⟩
  k_fill
  intro w s₀ s₁ mg mb G Y fa o pm cd doc dV kV ho hdd hcd hD hmg hg args vals as hpre hlay hrd hwl hlo
  have KX := km_in_of Y
  have TB := km_tabs_of Y
  have X := (Ground.X G).1
  have V := (Ground.X G).2
  have GL := glob_more (Ground.glob G (by decide +kernel) (by decide +kernel)) V
  refine Ground.open G ?_
  intro T B D TE TW
  try (refine guard_noD D (by decide +kernel) ?_; clear D)
  obtain ⟨_, _, M⟩ := bmod_of_top T
  have TA := at_of_top T
  try (obtain ⟨_, _, he, B0⟩ := based_of_top T rfl hmg ho hdd; have he' : cd = _ := he; subst he'; clear he)
  clear hmg
  wrow_args hpre hlay hrd hwl hlo
  first | refine callC_kw (enter_call ?_) | refine enter_call ?_ | refine callC_kw (enter_callW ?_) | refine enter_callW ?_ | w_how
  w_top on
  have K0 := below_caller (Top.heap T)
  w_call any ho hdd hcd hD T F
  clear hdd TA
  k_drop
  try k_fold
  k_steps
  rename IntsAre _ (List.map _ _) => hI8
  rename List.length _ = List.length (List.map _ _) => hL8
  rename Fr _ _ _ (fun _ => _) => F1
  rename News _ _ _ _ => N1
  rename List Int => ws
  obtain ⟨cl0, ecl0⟩ := led_name N1
  subst ecl0
  have t1 := TB 157 (by simp)
  have t2 := TB 164 (by simp)
  obtain ⟨g, F8, N8, X8, T8, BM8, B8, up8, dn8⟩ := hide_two F1 KX (topRead_of T) T.bmain t1 t2 (no157 w) (no164 w)
  have N7 := news_two (led_one N1) N8 dn8
  clear K0
  clear F1 N1 N8 T TE TW M GL
  rename IntsAre _ ws => hIw
  generalize hcs : List.map (fun k' : Int => k'.fmod (10 ^ Int.toNat 6)) (List.take 6 ws) = cs at hI8 hL8
  have hcl : cs.length ≤ 6 := by rw [← hcs, List.length_map, List.length_take]; omega
  have hI26 : ∀ a b c, IntsAre [Value.int 26 a, Value.int 44 b, Value.int 7 c] [26, 44, 7] := fun a b c => .cons _ _ (.cons _ _ (.cons _ _ .nil))
  refine' comp_list (ns := cs ++ ([26, 44, 7] : List Int).drop cs.length) (fun a => a.fmod 64) F8 N7 ?c1 rfl ?c2 ?c3 ?c4 ?c5 ?c6 ?c7 ?c8 ?c9 ?c11 ?c12 ?c13 ?c10
  case c1 => rfl
  case c2 => rfl
  case c3 => decide
  case c4 => rfl
  case c5 => decide
  case c6 => rfl
  case c7 => rfl
  case c8 => rfl
  case c9 => rw [List.length_append, List.length_drop]; simp; omega
  case c10 => intro _; rfl
  case c11 =>
    iterate 23 walk1
    rename Fr _ _ _ (fun _ => _) => F5
    rename News _ _ _ _ => N5
    refine' list_from (k := cs.length) (its := [Value.int 26 _, Value.int 44 _, Value.int 7 _]) (ns := [26, 44, 7]) (s := ⟨_, _, _, _, _⟩) F5 N5 ?m1 (hI26 _ _ _) ?m2 ?m3 ?m4
    case m1 => k_mem
    case m2 => exact Nat.le_of_ble_eq_true rfl
    case m4 => with_unfolding_all rfl
    intro l2 ws2 h2 hI2 F4 N4 l4
    (try k_lt l4)
    walk1
    rename IntsAre _ (cs ++ _) => hIA
    rename Fr _ _ _ (fun _ => _) => F3
    rename News _ _ _ _ => N3
    exact ⟨_, _, rfl, ⟨_, (N3 _ (.head _)).1, rfl, _, rfl⟩, hIA, F3, fun p hp => N3 p (by (repeat (rcases List.mem_cons.mp hp with rfl | hp; · k_mem)); cases hp), rfl, rfl⟩
  case c12 =>
    intro C a t s₂ m₂ E' ha hn hm
    walk1
    walk1
    walk1
    walk1
    exact ⟨⟨_, rfl⟩, _, _, rfl, fun _ _ e => e⟩
  case c13 =>
    intro D ys9 o s9 hco hdo F6 N6 hys hg9 ho9
    generalize hnn : List.map (fun a : Int => a.fmod 64) (cs ++ List.drop cs.length [26, 44, 7]) = nn at hys
    have hnl : 3 ≤ nn.length ∧ nn.length ≤ 9 := by rw [← hnn, List.length_map, List.length_append, List.length_drop]; simp; omega
    have hn64 : ∀ a ∈ nn, ∃ k : Nat, k < 64 ∧ a = (k : Int) := by
      intro a ha
      rw [← hnn] at ha
      obtain ⟨b, _, rfl⟩ := List.mem_map.mp ha
      have h1 := fmod_lo b (n := 64) (by decide)
      have h2 := fmod_hi b (n := 64) (by decide)
      exact ⟨(b.fmod 64).toNat, by omega, by omega⟩
    have hDt : D ≠ 157 ∧ D ≠ 164 := by
      have e : s9.heap.get? D = some o := (N6 (D, o) (.head _)).1
      refine ⟨fun q => ?_, fun q => ?_⟩
      · rw [q] at e
        have e3 : o = tabO #[] := Option.some.inj (e.symm.trans (N6 (157, tabO #[]) (by k_mem)).1)
        rw [e3] at hco
        cases hco
      · rw [q] at e
        have e3 : o = tabO #[] := Option.some.inj (e.symm.trans (N6 (164, tabO #[]) (by k_mem)).1)
        rw [e3] at hco
        cases hco
    iterate 22 walk1
    rename News _ _ _ _ => N5
    refine strs_item (s := ⟨_, _, _, _, _⟩) (ys := sepsL) ⟨_, (N5 _ (.head _)).1, rfl, _, rfl⟩ (.cons _ _ (.cons _ _ (.cons _ _ .nil))) (fmod_lo _ (by decide)) (fmod_hi _ (by decide)) (Nat.le_of_ble_eq_true rfl) ?_ (by with_unfolding_all rfl)
    intro sep tsep hsep
    iterate 14 walk1
    rename Fr _ _ _ (fun _ => _) => F5
    rename News _ _ _ _ => N5
    obtain ⟨cc, hdo⟩ := hdo
    refine max_list_N rfl F5 N5 ⟨_, (N5 (D, o) (by k_mem)).1, hco, _, hdo⟩ hys (by omega) ?_
    intro h4 M tM tk4 F4 N4 hM hMb
    obtain ⟨mN, hmN, rfl⟩ := hn64 M hM
    clear F5 N5
    iterate 2 walk1
    (refine' c_put (last := mN) ?k1 ?k2 ?k3 ?k4 ?k5 ?k6 rfl ?k8 ?k9 hmN ?G ?_; (case k1 => k_asm); (case k2 => k_asm); (case k3 => k_asm); (case k4 => k_asm); (case k5 => k_asm); (case k6 => k_asm); (case k8 => ktr_room); (case k9 => ktr_units))
    case G => exact .of_eq (hg9.trans hg)
    intro lc vsc c9 s8 hvc F8' N8' lc9 G8 o8
    have lc8 := lc9
    (try k_lt lc9)
    iterate 5 walk1
    rename Fr _ _ _ (fun _ => _) => F3
    rename News _ _ _ _ => N3
    have M3 := cb_drop (news := (lc, listOf vsc.toArray c9) :: (D, o) :: (157, tabO #[]) :: (164, tabO #[]) :: []) N3 (by (intro p hp; (repeat (rcases List.mem_cons.mp hp with rfl | hp; · k_mem)); cases hp))
    have lt157 := lc8 (157, tabO #[]) (by k_mem)
    have lt164 := lc8 (164, tabO #[]) (by k_mem)
    have ltD := lc8 (D, o) (by k_mem)
    refine' forZ_list (items := ys9.toArray) ["number"] (fun i nx => ∃ a b : Array Value, nx = ((lc, listOf vsc.toArray c9) :: (D, o) :: (157, tabO a) :: (164, tabO b) :: []) ∧ TriplesOk a.toList ∧ TriplesOk b.toList) ?d1 rfl rfl rfl rfl F3 M3 ?d2 ?d3 ?d4 ?d5 ?d6
    case d1 => exact ⟨_, (M3 (D, o) (by k_mem)).1, hco, _, hdo⟩
    case d2 => assumption
    case d3 => exact ⟨#[], #[], rfl, trivial, trivial⟩
    case d4 =>
      rintro i m₁ nx h ⟨a, b, rfl, -⟩ - N₁
      exact ⟨o, cc, (N₁ (D, o) (by k_mem)).1, hdo⟩
    case d5 =>
      rintro I i v u nx oi s5 hI hv ⟨a, b, rfl, hta, htb⟩ hoff F₁ N₁ G₁ o₁
      obtain ⟨kz, tk9, rfl, hkz⟩ := hys.at i v (by simpa using hv)
      obtain ⟨k, hk64, rfl⟩ := hn64 kz (List.mem_of_getElem? hkz)
      have o157 := hoff (157, tabO a) (by k_mem)
      have o164 := hoff (164, tabO b) (by k_mem)
      iterate 12 walk1
      rename News _ _ _ _ => N4'
      have M4' := cb_drop (news := (157, tabO a) :: (164, tabO b) :: (I, oi) :: (lc, listOf vsc.toArray c9) :: (D, o) :: []) N4' (by (intro p hp; (repeat (rcases List.mem_cons.mp hp with rfl | hp; · k_mem)); cases hp))
      clear N4'
      (refine' c_led (number := k) (rest := (I, oi) :: (lc, listOf vsc.toArray c9) :: (D, o) :: []) ?k1 ?k2 ?k3 ?k4 ?k5 ?k6 rfl ?k8 ?k9 hk64 ?e1 ?e2 hta htb hsep ?_; (case k1 => k_asm); (case k2 => k_asm); (case k3 => k_asm); (case k4 => k_asm); (case k5 => k_asm); (case k6 => k_asm); (case k8 => ktr_room); (case k9 => ktr_units))
      case e1 =>
        intro p hp
        rcases List.mem_cons.mp hp with rfl | hp
        · exact ⟨Ne.symm o157, Ne.symm o164⟩
        rcases List.mem_cons.mp hp with rfl | hp
        · exact ⟨Nat.ne_of_gt lt157, Nat.ne_of_gt lt164⟩
        rcases List.mem_cons.mp hp with rfl | hp
        · exact hDt
        · cases hp
      case e2 => assumption
      intro s6 t6 a6 b6 hta6 htb6 F6' N6' G6 o6
      iterate 4 walk1
      show wpAny _ _ (subscriptTail _ _ (Value.ref _) (Value.int _ _)) _ _ _
      have hkM : ((k : Nat) : Int) ≤ (mN : Nat) := hMb _ (List.mem_of_getElem? hkz)
      have hlz : (putZ.take (mN + 1)).length = mN + 1 := by rw [List.length_take]; have : putZ.length = 64 := by decide +kernel
                                                            omega
      refine put_item (s := ⟨_, _, _, _, _⟩) (vs := vsc) (ns := putZ.take (mN + 1)) ⟨_, (N6' (lc, _) (by k_mem)).1, rfl, _, rfl⟩ hvc (by omega) (by rw [hlz]; omega) (by rw [hlz]; omega) ?_ (by with_unfolding_all rfl)
      intro t7
      have hval : (putZ.take (mN + 1)).getD ((k : Nat) : Int).toNat 0 = ((ledT k : Nat) : Int) := by
        rw [Int.toNat_natCast, List.getD_eq_getElem?_getD, List.getElem?_take_of_lt (by omega), ← List.getD_eq_getElem?_getD]
        exact put_led k hk64
      rw [hval]
      k_steps
      · exfalso
        omega
      · rename Fr _ _ _ (fun _ => _) => F7'
        rename News _ _ _ _ => N7'
        refine' TurnZ.next ((lc, listOf vsc.toArray c9) :: (D, o) :: (157, tabO a6) :: (164, tabO b6) :: []) F7' N7' ?g1 ?g2 G6 (o6.trans o₁) ?g3 ⟨a6, b6, rfl, hta6, htb6⟩
        case g1 => intro p hp; (repeat (rcases List.mem_cons.mp hp with rfl | hp; · k_mem)); cases hp
        case g2 =>
          intro p hp
          rcases List.mem_cons.mp hp with rfl | hp
          · exact hoff (lc, listOf vsc.toArray c9) (by k_mem)
          rcases List.mem_cons.mp hp with rfl | hp
          · exact hoff (D, o) (by k_mem)
          rcases List.mem_cons.mp hp with rfl | hp
          · exact o157
          rcases List.mem_cons.mp hp with rfl | hp
          · exact o164
          · cases hp
        case g3 =>
          intro y hy
          have q1 := nin (a := "number") hy rfl
          simp only [if_neg q1, frOf, hy, Bool.false_eq_true, if_false]
    case d6 =>
      rintro u nx s5 ⟨a, b, rfl, hta, htb⟩ F₁ N₁ G₁ o₁
      k_steps
      show GoodWG _ _ _ _ _ _ _
      refine ⟨.inl ⟨.bool true, .bool true, [], rfl, ?f1, ?f2, ?f3, ?f4⟩, ?f5, ?f6, ?f7⟩
      case f1 => intro _; rfl
      case f2 => exact .bool true
      case f3 => first | with_unfolding_all rfl | kernel_rfl | (simp; done) | decide
      case f4 => exact fun _ => ⟨.nil, fun _ h => nomatch h⟩
      case f5 => exact old_two up8 F₁.keep t1 t2 (N₁ (157, tabO a) (by k_mem)).1 (N₁ (164, tabO b) (by k_mem)).1 (codeTab_of (c := 161) KX (hd157 w)) (codeTab_of (c := 168) KX (hd164 w))
      case f6 => exact o₁.trans (o8.trans ho9)
      case f7 => exact G₁
end

end Mine
end
theorem PySem.Challenge.cw_tc0049_01_holds : PySem.Challenge.rw_tc0049_01.Holds := by
  exact Mine.law_holds
