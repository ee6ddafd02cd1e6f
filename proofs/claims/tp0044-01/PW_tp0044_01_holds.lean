import PyProof.Rows.All
import Wide.All
import OpenK.AllK
import Wide.FinOn
import KE.KNest
import KE.KxPercentT
import PySem.Challenge.RW_tp0044_01
/-! Built up from texts of its own: an abstract machine with lists, names, closures and instances (Mine.AV, Mine.AO), rules that bring the model to it, the contracts of all functions that the law reaches, what they compute, and the mathematics: the Pfaffian of the signs and Schur's identity. -/
section
open PySem PySem.W PyProof.Rows
set_option Elab.async false
set_option maxRecDepth 100000
set_option linter.all false
set_option autoImplicit false
namespace Mine
/-! the text's functions, by their places in it -/
noncomputable abbrev Dfn := Arguments × List Stmt × Scope
noncomputable def noDfn : Dfn := (⟨[], [], none, [], [], none, []⟩, [], ⟨.function, [], false, false, []⟩)
noncomputable def asDfn : Option Stmt → Dfn
  | some (.FunctionDef _ a b _ _ _ s _ _ _) => (a, b, s)
  | _ => noDfn
noncomputable def dfn (i : Nat) : Dfn := asDfn (PySem.Challenge.pw_tp0044_01.main.body[i]?)
noncomputable def mth (i j : Nat) : Dfn := match PySem.Challenge.pw_tp0044_01.main.body[i]? with
  | some (.ClassDef _ _ _ b _ _ _ _ _ _ _) => asDfn b[j]?
  | _ => noDfn
noncomputable def mgL : List (Str × Option Value) := [(Str.ofString "_strcoll", some (.ref 45)), (Str.ofString "_netrclex", some (.ref 83)), (Str.ofString "add", some (.ref 94)), (Str.ofString "floordiv", some (.ref 101)), (Str.ofString "mod", some (.ref 108)), (Str.ofString "mul", some (.ref 115)), (Str.ofString "sub", some (.ref 122)),
  (Str.ofString "concat", some (.ref 129)), (Str.ofString "indexOf", some (.ref 136)), (Str.ofString "tspecials", some (.ref 141)), (Str.ofString "_name_disallowed_re", some (.ref 146)), (Str.ofString "_value_disallowed_re", some (.ref 151)), (Str.ofString "_formatparam", some (.ref 159)), (Str.ofString "Headers", some (.ref 282)),
  (Str.ofString "_law_lexer", some (.ref 293)), (Str.ofString "_law_numbers", some (.ref 298)), (Str.ofString "_law_signs", some (.ref 305)), (Str.ofString "_law_text", some (.ref 312)), (Str.ofString "_law_table", some (.ref 317)), (Str.ofString "_law_pairs", some (.ref 322)), (Str.ofString "_law_rounds", some (.ref 329)), (Str.ofString "_law_sums", some (.ref 336)),
  (Str.ofString "_law_order", some (.ref 343)), (Str.ofString "len", none), (Str.ofString "int", none), (Str.ofString "iter", none), (Str.ofString "hasattr", none), (Str.ofString "type", none), (Str.ofString "range", none), (Str.ofString "enumerate", none), (Str.ofString "zip", none), (Str.ofString "list", none), (Str.ofString "str", none)]
noncomputable def mnL : List (Str × Option Value) := [(Str.ofString "__getattribute__", none), (Str.ofString "__getattr__", none), (Str.ofString "__setattr__", none), (Str.ofString "lineno", none), (Str.ofString "instream", none), (Str.ofString "whitespace", none), (Str.ofString "pushback", none), (Str.ofString "read", none), (Str.ofString "_read_char", some (.ref 66)), (Str.ofString "get_token", some (.ref 73)), (Str.ofString "push_token", some (.ref 80))]
noncomputable def mhL : List (Str × Option Value) := [(Str.ofString "__getattribute__", none), (Str.ofString "__getattr__", none), (Str.ofString "__setattr__", none), (Str.ofString "_headers", none), (Str.ofString "_convert_string_type", some (.ref 181)), (Str.ofString "get", some (.ref 229)), (Str.ofString "add_header", some (.ref 279))]
/-! the text's objects, as the top leaves them -/
noncomputable abbrev fnO (d : Dfn) (name qual : Str) (df : Value) (pm : Str) (t : Tok) (c : Addr) : Obj := { cls := .type "function", data := .func { name := name, qualname := qual, params := d.1, body := .stmts d.2.1, scope := d.2.2, globals := 3, closure := [], defaults := df, kwdefaults := .none, pyModule := .str pm t, code := .ref c } }
noncomputable abbrev clsO (x : Str) (C N : Addr) (t u : Tok) : Obj := excClassObj x x C N [.type "object"] [.type "object"] true [] [] false none none none none (some (.str x t)) (some (.str x u)) (some (.bool true)) "object.__new__"
noncomputable def de (P : Params) (x : Str) (t : Tok) (v : Value) : DictEntry := { hash := PyData.keyHash P x, key := .str x t, val := v }
noncomputable abbrev dictO (es : List DictEntry) (k : Nat) : Obj := { cls := .type "dict", data := .dict es.toArray k }
noncomputable def KL (P : Params) : Frag := [(1, dictO [de P (Str.ofString "builtins") 162 (Value.ref 4), de P (Str.ofString "__main__") 163 (Value.ref 5), de P (Str.ofString "_sre") 244 (Value.ref 12)] 3),
  (4, { cls := Value.type "module", dict := some 0 }),
  (45, fnO (dfn 3) (Str.ofString "_strcoll") (Str.ofString "_strcoll") .none (Str.ofString "cpy313.locale") 289 44),
  (59, fnO (mth 5 0) (Str.ofString "__init__") (Str.ofString "_netrclex.__init__") .none (Str.ofString "cpy313.netrc") 299 58),
  (66, fnO (mth 5 1) (Str.ofString "_read_char") (Str.ofString "_netrclex._read_char") .none (Str.ofString "cpy313.netrc") 299 65),
  (73, fnO (mth 5 2) (Str.ofString "get_token") (Str.ofString "_netrclex.get_token") .none (Str.ofString "cpy313.netrc") 299 72),
  (80, fnO (mth 5 3) (Str.ofString "push_token") (Str.ofString "_netrclex.push_token") .none (Str.ofString "cpy313.netrc") 299 79),
  (82, dictO [de P (Str.ofString "__module__") 308 (Value.str (Str.ofString "cpy313.netrc") 299), de P (Str.ofString "__firstlineno__") 312 (Value.int 9 311), de P (Str.ofString "__init__") 320 (Value.ref 59), de P (Str.ofString "_read_char") 328 (Value.ref 66), de P (Str.ofString "get_token") 338 (Value.ref 73), de P (Str.ofString "push_token") 346 (Value.ref 80), de P (Str.ofString "__static_attributes__") 351 (Value.ref 81), de P (Str.ofString "__dict__") 353 (Value.ref 84), de P (Str.ofString "__weakref__") 355 (Value.ref 85), de P (Str.ofString "__doc__") 356 (Value.none)] 4),
  (83, clsO "_netrclex" 83 82 301 309),
  (94, fnO (dfn 7) (Str.ofString "add") (Str.ofString "add") .none (Str.ofString "cpy313.operator") 359 93),
  (101, fnO (dfn 8) (Str.ofString "floordiv") (Str.ofString "floordiv") .none (Str.ofString "cpy313.operator") 359 100),
  (108, fnO (dfn 9) (Str.ofString "mod") (Str.ofString "mod") .none (Str.ofString "cpy313.operator") 359 107),
  (115, fnO (dfn 10) (Str.ofString "mul") (Str.ofString "mul") .none (Str.ofString "cpy313.operator") 359 114),
  (122, fnO (dfn 11) (Str.ofString "sub") (Str.ofString "sub") .none (Str.ofString "cpy313.operator") 359 121),
  (129, fnO (dfn 12) (Str.ofString "concat") (Str.ofString "concat") .none (Str.ofString "cpy313.operator") 359 128),
  (136, fnO (dfn 13) (Str.ofString "indexOf") (Str.ofString "indexOf") .none (Str.ofString "cpy313.operator") 359 135),
  (140, { cls := Value.type "tuple", data := Data.seq #[Value.int 14 0, Value.int 14 0, Value.int 4 0, Value.int 1 0, Value.int 1 0, Value.int 9 0, Value.int 0 0, Value.int 4227896069 0, Value.int 939524097 0, Value.int 0 0, Value.int 0 0, Value.int 0 0, Value.int 0 0, Value.int 0 0, Value.int 0 0, Value.int 13 0, Value.int 11 0, Value.int 9 0, Value.int 0 0, Value.int 4227896069 0, Value.int 939524097 0, Value.int 0 0, Value.int 0 0, Value.int 0 0, Value.int 0 0, Value.int 0 0, Value.int 0 0, Value.int 1 0] }),
  (141, { cls := Value.type "re.Pattern", data := Data.fields #[Value.str (Str.ofString "[ \\(\\)<>@,;:\\\\\"/\\[\\]\\?=]") 423, Value.int 32 454, Value.int 0 0, Value.none, Value.none, Value.ref 140, Value.int 0 0] }),
  (145, { cls := Value.type "tuple", data := Data.seq #[Value.int 14 0, Value.int 10 0, Value.int 4 0, Value.int 1 0, Value.int 1 0, Value.int 22 0, Value.int 0 0, Value.int 31 0, Value.int 16 0, Value.int 127 0, Value.int 0 0, Value.int 13 0, Value.int 7 0, Value.int 22 0, Value.int 0 0, Value.int 31 0, Value.int 16 0, Value.int 127 0, Value.int 0 0, Value.int 1 0] }),
  (146, { cls := Value.type "re.Pattern", data := Data.fields #[Value.str (Str.ofString "[\\x00-\\x1F\\x7F]") 457, Value.int 32 480, Value.int 0 0, Value.none, Value.none, Value.ref 145, Value.int 0 0] }),
  (150, { cls := Value.type "tuple", data := Data.seq #[Value.int 14 0, Value.int 14 0, Value.int 4 0, Value.int 1 0, Value.int 1 0, Value.int 9 0, Value.int 4294966783 0, Value.int 0 0, Value.int 0 0, Value.int 2147483648 0, Value.int 0 0, Value.int 0 0, Value.int 0 0, Value.int 0 0, Value.int 0 0, Value.int 13 0, Value.int 11 0, Value.int 9 0, Value.int 4294966783 0, Value.int 0 0, Value.int 0 0, Value.int 2147483648 0, Value.int 0 0, Value.int 0 0, Value.int 0 0, Value.int 0 0, Value.int 0 0, Value.int 1 0] }),
  (151, { cls := Value.type "re.Pattern", data := Data.fields #[Value.str (Str.ofString "[\\x00-\\x08\\x0A-\\x1F\\x7F]") 483, Value.int 32 514, Value.int 0 0, Value.none, Value.none, Value.ref 150, Value.int 0 0] }),
  (152, { cls := Value.type "tuple", data := Data.seq #[Value.none, Value.int 1 516] }),
  (159, fnO (dfn 18) (Str.ofString "_formatparam") (Str.ofString "_formatparam") (.ref 152) (Str.ofString "cpy313.wsgiref.headers") 420 158),
  (167, { cls := Value.type "tuple", data := Data.seq #[Value.none] }),
  (174, fnO (mth 19 0) (Str.ofString "__init__") (Str.ofString "Headers.__init__") (.ref 167) (Str.ofString "cpy313.wsgiref.headers") 420 173),
  (181, fnO (mth 19 1) (Str.ofString "_convert_string_type") (Str.ofString "Headers._convert_string_type") .none (Str.ofString "cpy313.wsgiref.headers") 420 180),
  (222, { cls := Value.type "tuple", data := Data.seq #[Value.none] }),
  (229, fnO (mth 19 8) (Str.ofString "get") (Str.ofString "Headers.get") (.ref 222) (Str.ofString "cpy313.wsgiref.headers") 420 228),
  (279, fnO (mth 19 16) (Str.ofString "add_header") (Str.ofString "Headers.add_header") .none (Str.ofString "cpy313.wsgiref.headers") 420 278),
  (281, dictO [de P (Str.ofString "__module__") 533 (Value.str (Str.ofString "cpy313.wsgiref.headers") 420), de P (Str.ofString "__firstlineno__") 537 (Value.int 87 536), de P (Str.ofString "__init__") 547 (Value.ref 174), de P (Str.ofString "_convert_string_type") 557 (Value.ref 181), de P (Str.ofString "__len__") 564 (Value.ref 188), de P (Str.ofString "__setitem__") 573 (Value.ref 195), de P (Str.ofString "__delitem__") 579 (Value.ref 200), de P (Str.ofString "__getitem__") 587 (Value.ref 207), de P (Str.ofString "__contains__") 595 (Value.ref 214), de P (Str.ofString "get_all") 603 (Value.ref 221), de P (Str.ofString "get") 614 (Value.ref 229), de P (Str.ofString "keys") 620 (Value.ref 234), de P (Str.ofString "values") 626 (Value.ref 239), de P (Str.ofString "items") 633 (Value.ref 246), de P (Str.ofString "__repr__") 640 (Value.ref 253), de P (Str.ofString "__str__") 646 (Value.ref 258), de P (Str.ofString "__bytes__") 653 (Value.ref 265), de P (Str.ofString "setdefault") 662 (Value.ref 272), de P (Str.ofString "add_header") 675 (Value.ref 279), de P (Str.ofString "__static_attributes__") 677 (Value.ref 280), de P (Str.ofString "__dict__") 679 (Value.ref 283), de P (Str.ofString "__weakref__") 681 (Value.ref 284), de P (Str.ofString "__doc__") 682 (Value.none)] 4),
  (282, clsO "Headers" 282 281 526 534),
  (288, tabObj #[]),
  (292, { cls := Value.type "code", data := Data.fields #[Value.str (Str.ofString "_law_lexer") 687, Value.str (Str.ofString "_law_lexer") 688, Value.str (Str.ofString "/claim/cut.py") 689, Value.int 169 0, Value.int 1 0, Value.int 0 0, Value.int 0 0, Value.int 3 0, Value.ref 287, Value.bool true, Value.int 276 0, Value.ref 288, Value.none, Value.ref 289, Value.ref 290, Value.ref 291, Value.int 696 0, Value.int 169 0, Value.str (Str.ofString "/claim/cut.py") 697] }),
  (293, fnO (dfn 21) (Str.ofString "_law_lexer") (Str.ofString "_law_lexer") .none (Str.ofString "law_tp0044_01") 685 292),
  (298, fnO (dfn 22) (Str.ofString "_law_numbers") (Str.ofString "_law_numbers") .none (Str.ofString "law_tp0044_01") 685 297),
  (305, fnO (dfn 23) (Str.ofString "_law_signs") (Str.ofString "_law_signs") .none (Str.ofString "law_tp0044_01") 685 304),
  (312, fnO (dfn 24) (Str.ofString "_law_text") (Str.ofString "_law_text") .none (Str.ofString "law_tp0044_01") 685 311),
  (317, fnO (dfn 25) (Str.ofString "_law_table") (Str.ofString "_law_table") .none (Str.ofString "law_tp0044_01") 685 316),
  (322, fnO (dfn 26) (Str.ofString "_law_pairs") (Str.ofString "_law_pairs") .none (Str.ofString "law_tp0044_01") 685 321),
  (329, fnO (dfn 27) (Str.ofString "_law_rounds") (Str.ofString "_law_rounds") .none (Str.ofString "law_tp0044_01") 685 328),
  (336, fnO (dfn 28) (Str.ofString "_law_sums") (Str.ofString "_law_sums") .none (Str.ofString "law_tp0044_01") 685 335),
  (343, fnO (dfn 29) (Str.ofString "_law_order") (Str.ofString "_law_order") .none (Str.ofString "law_tp0044_01") 685 342),
  (348, fnO (dfn 30) (Str.ofString "law") (Str.ofString "law") .none (Str.ofString "law_tp0044_01") 685 347)]
noncomputable def codesL : List (Addr × Str) := [(44, (Str.ofString "_strcoll")), (58, (Str.ofString "_netrclex.__init__")), (65, (Str.ofString "_netrclex._read_char")), (72, (Str.ofString "_netrclex.get_token")), (79, (Str.ofString "_netrclex.push_token")), (93, (Str.ofString "add")), (100, (Str.ofString "floordiv")), (107, (Str.ofString "mod")), (114, (Str.ofString "mul")), (121, (Str.ofString "sub")), (128, (Str.ofString "concat")), (135, (Str.ofString "indexOf")), (158, (Str.ofString "_formatparam")), (173, (Str.ofString "Headers.__init__")), (180, (Str.ofString "Headers._convert_string_type")), (228, (Str.ofString "Headers.get")), (278, (Str.ofString "Headers.add_header")), (292, (Str.ofString "_law_lexer")), (297, (Str.ofString "_law_numbers")), (304, (Str.ofString "_law_signs")), (311, (Str.ofString "_law_text")), (316, (Str.ofString "_law_table")), (321, (Str.ofString "_law_pairs")), (328, (Str.ofString "_law_rounds")), (335, (Str.ofString "_law_sums")), (342, (Str.ofString "_law_order")), (347, (Str.ofString "law"))]
noncomputable def nsL : List (Addr × List (Str × Option Value)) := [(3, mgL ++ [(Str.ofString "law", some (.ref 348)), (Str.ofString "__builtins__", some (.ref 4))]), (82, mnL), (281, mhL), (2, [(sharingNotToldKey, none)])]
noncomputable def obsL (s : Shared) : List (Option Obj) × Bool × List (List (Option Value)) × Nat :=
  ([1, 4, 45, 59, 66, 73, 80, 82, 83, 94, 101, 108, 115, 122, 129, 136, 140, 141, 145, 146, 150, 151, 152, 159, 167, 174, 181, 222, 229, 279, 281, 282, 288, 292, 293, 298, 305, 312, 317, 322, 329, 336, 343, 348].map s.heap.get?, (nsL.all fun p => s.heap.isNs p.1) && codesL.all fun c => s.heap.codeRecOk (.ref c.1) c.2, nsL.map fun p => p.2.map fun q => s.heap.nsMap p.1 q.1, s.heap.objs.size)
noncomputable def valL (w : World) : List (Option Obj) × Bool × List (List (Option Value)) × Nat := ((KL w.params).map fun p => some p.2, true, nsL.map fun p => p.2.map (·.2), 349)
noncomputable def looseQ : List Str := ["_wall", "_strcoll", "_netrclex", "add", "floordiv", "mod", "mul", "sub", "concat", "indexOf", "tspecials", "_name_disallowed_re", "_value_disallowed_re", "_formatparam", "Headers", "_law_lexer", "_law_numbers", "_law_signs", "_law_text", "_law_table", "_law_pairs", "_law_rounds", "_law_sums", "_law_order"]
noncomputable def viewQ : Program := { PySem.Challenge.pw_tp0044_01 with main := { PySem.Challenge.pw_tp0044_01.main with body := PySem.Challenge.pw_tp0044_01.main.body.take 1 ++ PySem.Challenge.pw_tp0044_01.main.body.drop 30 } }
noncomputable abbrev rowQ : OpenRow := PySem.Challenge.rw_tp0044_01.row
/-! the top's run with its heap in a tree -/
section
variable {tb : String → Option Builtin} {p : Program} {w : World} {n₀ : Nat} {ann : Option Value}
noncomputable def runT (tb : String → Option Builtin) (p : Program) (w : World) (n₀ : Nat) (ann : Option Value) : Nat → SharedT → Thread → Option SharedT
  | 0, _, _ => none
  | n + 1, s, t => match through t with
    | true => some s
    | false => match stepOk n₀ ann t with
      | false => none
      | true => match stepT (denote tb) p w s t with
        | some (s', t') => runT tb p w n₀ ann n s' t'
        | none => none
theorem runT_of {n : Nat} : ∀ {s s' : SharedT} {t : Thread}, runT tb p w n₀ ann n s t = some s' → topRun tb p w n₀ ann n s.abs t = some s'.abs := by
  induction n with
  | zero => intro s s' t h; cases h
  | succ n ih =>
    intro s s' t h
    unfold runT at h
    unfold topRun
    cases ht : through t with
    | true => rw [ht] at h; cases h; rfl
    | false =>
      rw [ht] at h
      cases hk : stepOk n₀ ann t with
      | false => rw [hk] at h; cases h
      | true =>
        rw [hk] at h
        cases hs : stepT (denote tb) p w s t with
        | none => rw [hs] at h; cases h
        | some r => obtain ⟨s₂, t₂⟩ := r; rw [hs] at h; rw [stepT_spec hs]; exact ih h
noncomputable def insAll : List Obj → BT → Nat → Option BT
  | [], t, _ => some t
  | o :: l, t, n => match ((t.ins n o).get n).isSome with
    | true => insAll l (t.ins n o) (n + 1)
    | false => none
theorem insAll_of {l : List Obj} {life : Life} : ∀ {t t' : BT} {n : Nat}, insAll l t n = some t' → absHeap t' (n + l.length) life = ⟨(absHeap t n life).objs ++ l.toArray, life⟩ := by
  induction l with
  | nil => intro t t' n h; cases h; show absHeap t n life = ⟨(absHeap t n life).objs ++ #[], life⟩; rw [Array.append_empty]; rfl
  | cons o l ih =>
    intro t t' n h
    unfold insAll at h
    cases q : ((t.ins n o).get n).isSome with
    | false => rw [q] at h; cases h
    | true =>
      rw [q] at h
      have e := ih h
      rw [List.length_cons, Nat.add_comm l.length 1, ← Nat.add_assoc, e, absHeap_ins q]
      show Heap.mk ((absHeap t n life).objs.push o ++ l.toArray) life = _
      simp
noncomputable def sharedT (s : Shared) : Option SharedT := match insAll s.heap.objs.toList .nil 0 with
  | some t => some ⟨t, s.heap.objs.size, s.heap.life, s.gens, s.drawn, s.toks, s.os⟩
  | none => none
theorem sharedT_of {s : Shared} {x : SharedT} (h : sharedT s = some x) : x.abs = s := by
  unfold sharedT at h
  cases e : insAll s.heap.objs.toList .nil 0 with
  | none => rw [e] at h; cases h
  | some t =>
    rw [e] at h; cases h
    obtain ⟨⟨objs, life⟩, g, d, k, os⟩ := s
    have := insAll_of (life := life) e
    rw [Nat.zero_add, Array.length_toList] at this
    show Shared.mk (absHeap t objs.size life) g d k os = _
    rw [this]
    simp [absHeap, BT.list]
noncomputable def topT (tb : String → Option Builtin) (p : Program) (w : World) (N : Nat) (s₀ : Shared) : Option Shared :=
  match s₀.heap.isNs mainGlobals && s₀.gens.size == 0 with
  | true => match sharedT s₀ with
    | some x => match runT tb p w s₀.heap.objs.size (s₀.heap.nsMap mainGlobals "__annotations__") N x (topStub p) with
      | some y => match staticsOk (importedModules p.main.body) s₀.heap y.abs.heap && namesBound p y.abs.heap && gensDone y.abs && laidKept s₀.heap y.abs.heap with
        | true => some y.abs
        | false => none
      | none => none
    | none => none
  | false => none
theorem topT_of {N : Nat} {s₀ s : Shared} (h : topT tb p w N s₀ = some s) : topFrom tb p w N s₀ = some s := by
  unfold topT at h
  unfold topFrom
  cases e : s₀.heap.isNs mainGlobals && s₀.gens.size == 0 with
  | false => rw [e] at h; cases h
  | true =>
    rw [e] at h
    cases e1 : sharedT s₀ with
    | none => rw [e1] at h; cases h
    | some x =>
      rw [e1] at h
      have h : (match runT tb p w s₀.heap.objs.size (s₀.heap.nsMap mainGlobals "__annotations__") N x (topStub p) with
        | some y => (match staticsOk (importedModules p.main.body) s₀.heap y.abs.heap && namesBound p y.abs.heap && gensDone y.abs && laidKept s₀.heap y.abs.heap with
          | true => some y.abs
          | false => none)
        | none => none) = some s := h
      cases e2 : runT tb p w s₀.heap.objs.size (s₀.heap.nsMap mainGlobals "__annotations__") N x (topStub p) with
      | none => rw [e2] at h; cases h
      | some y =>
        rw [e2] at h
        have r := runT_of e2
        rw [sharedT_of e1] at r
        show (topRun tb p w s₀.heap.objs.size (s₀.heap.nsMap mainGlobals "__annotations__") N s₀ (topStub p)).bind _ = _
        rw [r]
        exact h
theorem left_of {p q : Program} {loose : List Str} {Xt : Shared → Bool} {α : Type} {Yf : Shared → α} {Ya : World → α} {N : Nat} (h : ∀ w, ((fencedOpening treeTable p w N).bind (topT treeTable p w N)).map (fun s => (openSeen q loose (importedModules p.main.body) Xt true s, Yf s)) = some (openGood q loose, Ya w)) : LeftO p q loose Xt Yf Ya N := fun w => by
  obtain ⟨s, e1, e2⟩ := Option.map_eq_some_iff.mp (h w)
  obtain ⟨s₀, e3, e4⟩ := Option.bind_eq_some_iff.mp e1
  have e : openEnds treeTable p w N = some s := by
    unfold openEnds
    rw [e3]
    exact topT_of e4
  rw [e]
  exact congrArg some e2
end
theorem left_top : LeftO PySem.Challenge.pw_tp0044_01 viewQ looseQ (fun s => xlAt viewQ [] s && recOk (RowW.records rowQ.toRowW) s) obsL valL 4002 := by
  refine left_of fun w => ?_
  kernel_rfl
theorem said1 : sreFenced rowQ.prog.main = true := by kernel_rfl
theorem said2 : ((moduleNames rowQ.prog.main.body).isEmpty || lookedIntoSs (moduleNames rowQ.prog.main.body) rowQ.prog.main.body) = true := by kernel_rfl
theorem said3 : namesResolve rowQ.prog = true := by kernel_rfl
theorem said4 : rowQ.prog.boundNames.all (fun n => !worldNames.contains n) = true := by kernel_rfl
theorem said5 : noRoadLSs { strict := !(importedModules rowQ.prog.main.body).all cThrough.contains, foot := none, bare := (["vars", "dir", "locals"] : List Str).filter (readsOut rowQ.prog rowQ.prog.main.body) } rowQ.prog.main.body = true := by kernel_rfl
theorem said6 : (namesMeet rowQ.prog rowQ.prog.main.body fun _ n => attrL n) = true := by kernel_rfl
theorem said7 : looksOpen rowQ.prog = true := look_both (look_both (look_both (look_both (look_both said1 said2) said3) said4) said5) said6
theorem said8 : rowQ.wellSaid = true := by
  refine look_both (look_both ?_ (by kernel_rfl)) (by kernel_rfl)
  iterate 13 refine look_both ?_ (by kernel_rfl)
  exact said7
theorem said : PySem.Challenge.rw_tp0044_01.wellSaid = true := by
  iterate 18 refine look_both ?_ (by kernel_rfl)
  exact said8
end Mine
end
section
open PySem PySem.W PyProof.Rows
set_option Elab.async false
set_option maxRecDepth 100000
set_option linter.all false
set_option autoImplicit false
namespace Mine
theorem hide {P : Prop} (h : ∀ Q : Prop, (P → Q) → Q) : P := h P id
section
variable {α β γ : Type} {Q : Prop}
theorem someE {a c : α} {b d : β} (e : some (a, b) = some (c, d)) (k : a = c → b = d → Q) : Q := k (Prod.mk.inj (Option.some.inj e)).1 (Prod.mk.inj (Option.some.inj e)).2
noncomputable def thenO (x : Option (α × β)) (f : α → β → Option γ) : Option γ := x.bind fun p => f p.1 p.2
theorem thenI {x : Option (α × β)} {f : α → β → Option γ} {a : α} {b : β} {r : Option γ} (h : x = some (a, b)) (k : f a b = r) : thenO x f = r := by
  rw [h]
  exact k
theorem thenN {x : Option (α × β)} {f : α → β → Option γ} (h : x = none) : thenO x f = none := by rw [h]; rfl
theorem bindI {x : Option α} {f : α → Option γ} {a : α} {r : Option γ} (h : x = some a) (k : f a = r) : x.bind f = r := by
  rw [h]
  exact k
theorem thenE {x : Option (α × β)} {f : α → β → Option γ} {r : γ} (h : thenO x f = some r) (k : ∀ a b, x = some (a, b) → f a b = some r → Q) : Q := by
  cases x with
  | none => cases h
  | some p => exact k _ _ rfl h
theorem bindE {x : Option α} {f : α → Option γ} {r : γ} (h : x.bind f = some r) (k : ∀ a, x = some a → f a = some r → Q) : Q := by
  cases x with
  | none => cases h
  | some p => exact k _ rfl h
theorem mapE {x : Option α} {f : α → γ} {r : γ} (h : x.map f = some r) (k : ∀ a, x = some a → f a = r → Q) : Q := by
  cases x with
  | none => cases h
  | some p => exact k _ rfl (Option.some.inj h)
theorem map2E {x : Option (α × β)} {f : α × β → γ} {r : γ} (h : x.map f = some r) (k : ∀ a b, x = some (a, b) → f (a, b) = r → Q) : Q := by
  cases x with
  | none => cases h
  | some p => exact k _ _ rfl (Option.some.inj h)
theorem iteE {c : Prop} [Decidable c] {x : Option γ} {r : γ} (h : (if c then x else none) = some r) (k : c → x = some r → Q) : Q := by
  by_cases z : c
  · rw [if_pos z] at h; exact k z h
  · rw [if_neg z] at h; cases h
theorem elseE {c : Prop} [Decidable c] {x y : Option γ} {r : γ} (h : (if c then x else y) = some r) (k : c → x = some r → Q) (k' : ¬ c → y = some r → Q) : Q := by
  by_cases z : c
  · rw [if_pos z] at h; exact k z h
  · rw [if_neg z] at h; exact k' z h
theorem noneE {r : γ} (h : none = some r) : Q := nomatch h
theorem elimE {x : Option α} {p : α → Prop} {a : α} (h : x.elim True p) (e : x = some a) : p a := by
  rw [e] at h
  exact h
theorem orE {x y : Option γ} {r : γ} (h : x.or y = some r) (k : x = some r → Q) (k' : y = some r → Q) : Q := by
  cases x with
  | none => exact k' h
  | some p => exact k h
end

/-- abstract values -/
inductive AV where
  | c (v : Value)
  | int (i : Int)
  | str (s : Str)
  | tup (l : List AV)
  | obj (n : Nat)
  | strT (b : Bool) (T : Nat) (s : Str)
deriving Inhabited

structure FnSh where
  name : Str
  qual : Str
  params : Arguments
  body : List Stmt
  scope : Scope
  pm : Value

/-- abstract objects; one concrete object each -/
inductive AO where
  | list (l : List AV)
  | ns (es : List (Str × AV))
  | inst (C : Addr) (d : Nat)
  | cell (v : Option AV)
  | dict (es : List (Str × AV))
  | fn (sh : FnSh) (cs : List (Str × Nat)) (ci : Nat)
  | crec (qual : Str)
  | tab (P : Addr) (fresh : Bool)
  | meth (f : Value) (x : Nat)
  | citer (m : Option (Str × Nat))
  | opq (T : String)
deriving Inhabited

mutual
inductive VRel (h : Heap) (X φ : List Addr) : AV → Value → Prop
  | c (v : Value) : VRel h X φ (.c v) v
  | int (i : Int) (t : Tok) : VRel h X φ (.int i) (.int i t)
  | str (s : Str) (t : Tok) : VRel h X φ (.str s) (.str s t)
  | tup {l : List AV} {vs : List Value} {a : Addr} : a ∉ X → h.IsTuple a vs.toArray → VRels h X φ l vs → VRel h X φ (.tup l) (.ref a)
  | obj {n : Nat} {a : Addr} : φ[n]? = some a → VRel h X φ (.obj n) (.ref a)
  | strT {b : Bool} {T : Nat} (s : Str) {t : Tok} : (0 < T ∧ (b = true → T ≤ t) ∧ (b = false → 0 < t ∧ t < T)) → VRel h X φ (.strT b T s) (.str s t)
inductive VRels (h : Heap) (X φ : List Addr) : List AV → List Value → Prop
  | nil : VRels h X φ [] []
  | cons {v : AV} {r : Value} {l : List AV} {vs : List Value} : VRel h X φ v r → VRels h X φ l vs → VRels h X φ (v :: l) (r :: vs)
end

noncomputable def TupK (X : List Addr) (h h' : Heap) : Prop := ∀ a vs, h.IsTuple a vs → a ∉ X → h'.IsTuple a vs
noncomputable def Pre (φ φ' : List Addr) : Prop := ∃ ψ, φ' = φ ++ ψ
theorem Pre.refl (φ : List Addr) : Pre φ φ := ⟨[], by simp⟩
theorem Pre.trans {a b c : List Addr} (h : Pre a b) (k : Pre b c) : Pre a c := by
  obtain ⟨x, rfl⟩ := h; obtain ⟨y, rfl⟩ := k; exact ⟨x ++ y, by simp⟩
theorem Pre.get {a b : List Addr} (h : Pre a b) {n : Nat} {x : Addr} (e : a[n]? = some x) : b[n]? = some x := by
  obtain ⟨y, rfl⟩ := h
  rw [List.getElem?_append_left (List.getElem?_eq_some_iff.mp e).1]; exact e

/-- tuples and places stay -/
structure Sim (h : Heap) (X φ : List Addr) (h' : Heap) (X' φ' : List Addr) : Prop where
  tup : ∀ a vs, h.IsTuple a vs → a ∉ X → h'.IsTuple a vs ∧ a ∉ X'
  get : ∀ (i : Nat) a, φ[i]? = some a → φ'[i]? = some a
theorem Sim.of {h h' : Heap} {X φ φ' : List Addr} (k : TupK X h h') (p : Pre φ φ') : Sim h X φ h' X φ' := ⟨fun a vs t n => ⟨k a vs t n, n⟩, fun _ _ e => p.get e⟩
theorem VRel.map {h h' : Heap} {X φ X' φ' : List Addr} (k : Sim h X φ h' X' φ') {v : AV} {r : Value} (x : VRel h X φ v r) : VRel h' X' φ' v r :=
  VRel.rec (motive_1 := fun v r _ => VRel h' X' φ' v r) (motive_2 := fun l vs _ => VRels h' X' φ' l vs) (fun v => .c v) (fun i t => .int i t) (fun s t => .str s t) (fun hx ht _ ih => .tup (k.tup _ _ ht hx).2 (k.tup _ _ ht hx).1 ih) (fun e => .obj (k.get _ _ e)) (fun s _ e => .strT s e) .nil (fun _ _ a b => .cons a b) x
theorem VRels.map {h h' : Heap} {X φ X' φ' : List Addr} (k : Sim h X φ h' X' φ') {l : List AV} {vs : List Value} (x : VRels h X φ l vs) : VRels h' X' φ' l vs :=
  VRels.rec (motive_1 := fun v r _ => VRel h' X' φ' v r) (motive_2 := fun l vs _ => VRels h' X' φ' l vs) (fun v => .c v) (fun i t => .int i t) (fun s t => .str s t) (fun hx ht _ ih => .tup (k.tup _ _ ht hx).2 (k.tup _ _ ht hx).1 ih) (fun e => .obj (k.get _ _ e)) (fun s _ e => .strT s e) .nil (fun _ _ a b => .cons a b) x
theorem VRel.mono {h h' : Heap} {X φ φ' : List Addr} (k : TupK X h h') (p : Pre φ φ') {v : AV} {r : Value} (x : VRel h X φ v r) : VRel h' X φ' v r := x.map (.of k p)
theorem VRels.mono {h h' : Heap} {X φ φ' : List Addr} (k : TupK X h h') (p : Pre φ φ') {l : List AV} {vs : List Value} (x : VRels h X φ l vs) : VRels h' X φ' l vs := x.map (.of k p)
/-- lists told part by part -/
theorem VRels.ind {h : Heap} {X φ : List Addr} {P : List AV → List Value → Prop} (h0 : P [] []) (h1 : ∀ {v r l vs}, VRel h X φ v r → VRels h X φ l vs → P l vs → P (v :: l) (r :: vs)) {l : List AV} {vs : List Value} (x : VRels h X φ l vs) : P l vs :=
  VRels.rec (motive_1 := fun _ _ _ => True) (motive_2 := fun l vs _ => P l vs) (fun _ => trivial) (fun _ _ => trivial) (fun _ _ => trivial) (fun _ _ _ _ => trivial) (fun _ => trivial) (fun _ _ _ => trivial) h0 (fun a b _ ih => h1 a b ih) x
theorem VRels.length {h : Heap} {X φ : List Addr} {l : List AV} {vs : List Value} (x : VRels h X φ l vs) : vs.length = l.length :=
  x.ind (P := fun l vs => vs.length = l.length) rfl fun _ _ ih => congrArg Nat.succ ih
theorem VRels.get {h : Heap} {X φ : List Addr} {l : List AV} {vs : List Value} (x : VRels h X φ l vs) : ∀ {i : Nat} {v : AV}, l[i]? = some v → ∃ r, vs[i]? = some r ∧ VRel h X φ v r :=
  x.ind (P := fun l vs => ∀ {i : Nat} {v : AV}, l[i]? = some v → ∃ r, vs[i]? = some r ∧ VRel h X φ v r) (fun e => by simp at e) fun a _ ih i v e => by
    cases i with
    | zero => rw [List.getElem?_cons_zero] at e; cases e; exact ⟨_, List.getElem?_cons_zero, a⟩
    | succ i => rw [List.getElem?_cons_succ] at e ⊢; exact ih e
theorem VRels.append {h : Heap} {X φ : List Addr} {l l' : List AV} {vs vs' : List Value} (x : VRels h X φ l vs) (q : VRels h X φ l' vs') : VRels h X φ (l ++ l') (vs ++ vs') :=
  x.ind (P := fun l vs => VRels h X φ (l ++ l') (vs ++ vs')) q fun a _ ih => .cons a ih
/-- what stands behind an abstract value -/
theorem VRel.c_inv {h : Heap} {X φ : List Addr} {w r : Value} (x : VRel h X φ (.c w) r) : r = w := by cases x; rfl
theorem VRel.int_inv {h : Heap} {X φ : List Addr} {i : Int} {r : Value} (x : VRel h X φ (.int i) r) : ∃ t, r = .int i t := by cases x; exact ⟨_, rfl⟩
theorem VRel.str_inv {h : Heap} {X φ : List Addr} {y : Str} {r : Value} (x : VRel h X φ (.str y) r) : ∃ t, r = .str y t := by cases x; exact ⟨_, rfl⟩
theorem VRel.obj_inv {h : Heap} {X φ : List Addr} {n : Nat} {r : Value} (x : VRel h X φ (.obj n) r) : ∃ a, r = .ref a ∧ φ[n]? = some a := by cases x with | obj e => exact ⟨_, rfl, e⟩
theorem VRel.tup_inv {h : Heap} {X φ : List Addr} {l : List AV} {r : Value} (x : VRel h X φ (.tup l) r) : ∃ a vs, r = .ref a ∧ a ∉ X ∧ h.IsTuple a vs.toArray ∧ VRels h X φ l vs := by cases x with | tup h1 h2 h3 => exact ⟨_, _, rfl, h1, h2, h3⟩
theorem VRels.nil_inv {h : Heap} {X φ : List Addr} {vs : List Value} (x : VRels h X φ [] vs) : vs = [] := by cases x; rfl
theorem VRels.cons_inv {h : Heap} {X φ : List Addr} {v : AV} {l : List AV} {vs : List Value} (x : VRels h X φ (v :: l) vs) : ∃ r rs, vs = r :: rs ∧ VRel h X φ v r ∧ VRels h X φ l rs := by cases x with | cons a b => exact ⟨_, _, rfl, a, b⟩
theorem VRels.inv1 {h : Heap} {X φ : List Addr} {v : AV} {vs : List Value} (x : VRels h X φ [v] vs) : ∃ r, vs = [r] ∧ VRel h X φ v r := by
  obtain ⟨r, rs, rfl, a, b⟩ := x.cons_inv
  cases b.nil_inv
  exact ⟨r, rfl, a⟩
theorem VRels.inv2 {h : Heap} {X φ : List Addr} {v w : AV} {vs : List Value} (x : VRels h X φ [v, w] vs) : ∃ r q, vs = [r, q] ∧ VRel h X φ v r ∧ VRel h X φ w q := by
  obtain ⟨r, rs, rfl, a, b⟩ := x.cons_inv
  obtain ⟨q, rfl, c⟩ := b.inv1
  exact ⟨r, q, rfl, a, c⟩
theorem some_inj2 {α β : Type} {a c : α} {b d : β} (e : some (a, b) = some (c, d)) : a = c ∧ b = d := by cases e; exact ⟨rfl, rfl⟩

/-- a namespace: names told and names not there -/
noncomputable def NsRel (h : Heap) (X φ : List Addr) (es : List (Str × AV)) (m : Str → Option Value) : Prop :=
  ∀ x, match es.lookup x with
    | none => m x = none
    | some v => ∃ r, m x = some r ∧ VRel h X φ v r
theorem NsRel.map {h h' : Heap} {X φ X' φ' : List Addr} (k : Sim h X φ h' X' φ') {es m} (x : NsRel h X φ es m) : NsRel h' X' φ' es m := by
  intro y
  have z := x y
  cases e : es.lookup y with
  | none => rw [e] at z; exact z
  | some v => rw [e] at z; obtain ⟨r, q, w⟩ := z; exact ⟨r, q, w.map k⟩
theorem NsRel.mono {h h' : Heap} {X φ φ' : List Addr} (k : TupK X h h') (p : Pre φ φ') {es m} (x : NsRel h X φ es m) : NsRel h' X φ' es m := x.map (.of k p)
/-- store a name -/
noncomputable def put (es : List (Str × AV)) (x : Str) (v : AV) : List (Str × AV) := match es with
  | [] => [(x, v)]
  | (y, w) :: r => if x == y then (y, v) :: r else (y, w) :: put r x v
theorem put_lookup (es : List (Str × AV)) (x : Str) (v : AV) (y : Str) : (put es x v).lookup y = if y = x then some v else es.lookup y := by
  induction es with
  | nil =>
    by_cases h : y = x
    · subst h; simp [put, List.lookup]
    · have : (y == x) = false := by simp [h]
      simp [put, List.lookup, this, h]
  | cons p r ih =>
    obtain ⟨z, w⟩ := p
    unfold put
    by_cases h : x = z
    · subst h
      by_cases q : y = x
      · subst q; simp [List.lookup]
      · have : (y == x) = false := by simp [q]
        simp [List.lookup, this, q]
    · have : (x == z) = false := by simp [h]
      rw [this]
      simp only [Bool.false_eq_true, if_false]
      by_cases q : y = z
      · subst q
        have h' : ¬ y = x := fun e => h e.symm
        simp [List.lookup, h']
      · have : (y == z) = false := by simp [q]
        simp only [List.lookup, this]
        exact ih
theorem NsRel.put {h : Heap} {X φ : List Addr} {es m} (x : NsRel h X φ es m) {n : Str} {v : AV} {r : Value} (hv : VRel h X φ v r) : NsRel h X φ (put es n v) (fun y => if y = n then some r else m y) := by
  intro y
  rw [put_lookup]
  by_cases q : y = n
  · subst q; simp only [if_true]; exact ⟨r, rfl, hv⟩
  · simp only [if_neg q]; exact x y

/-- what the whole call leaves as it is -/
structure Glob where
  prog : Program
  w : World
  K : List (Addr × Obj)
  os : OsState
  gens : Array GenState

noncomputable def CellsRel (φ : List Addr) (cs : List (Str × Nat)) (cells : List (Str × Addr)) : Prop := ∀ x i, cs.lookup x = some i → ∃ a, φ[i]? = some a ∧ cells.lookup x = some a
theorem CellsRel.pre {φ φ' : List Addr} {cs cells} (h : CellsRel φ cs cells) (p : Pre φ φ') : CellsRel φ' cs cells := fun x i e => let ⟨a, q, r⟩ := h x i e; ⟨a, p.get q, r⟩
theorem CellsRel.nil {φ : List Addr} : CellsRel φ [] [] := fun x i e => by cases e
noncomputable abbrev fnObj (sh : FnSh) (clos : List (Str × Addr)) (doc : Value) (c' : Addr) (ctv : Value) : Obj := { cls := .type "function", data := .func (fnX sh.name sh.qual sh.params sh.body sh.scope clos .none .none doc sh.pm none (.ref c') ctv) }
noncomputable def ORel (G : Glob) (h : Heap) (X φ : List Addr) : AO → Addr → Prop
  | .list l, a => ∃ vs n, h.get? a = some { cls := .type "list", data := .seq vs.toArray n } ∧ VRels h X φ l vs
  | .ns es, a => ∃ m, h.Ns1 a m ∧ NsRel h X φ es m
  | .inst C d, a => ∃ da, φ[d]? = some da ∧ h.get? a = some { cls := .ref C, dict := some da, data := .plain }
  | .cell v, a => match v with
    | none => h.IsCell a none
    | some v => ∃ r, h.IsCell a (some r) ∧ VRel h X φ v r
  | .dict es, a => ∃ o es' ep kvs, h.get? a = some o ∧ o.ExactDict ∧ o.data = .dict es' ep ∧ KeysOf (strKind G.prog G.w) es' ∧ Pairs (strKind G.prog G.w) es'.toList kvs ∧ (kvs.map (·.1)).Nodup ∧ kvs.map (·.1) = es.map (·.1) ∧ VRels h X φ (es.map (·.2)) (kvs.map (·.2))
  | .fn sh cs ci, a => ∃ c' ctv doc clos, φ[ci]? = some c' ∧ CellsRel φ cs clos ∧ h.get? a = some (fnObj sh clos doc c' ctv)
  | .crec qual, a => ∃ oc vs t, h.get? a = some oc ∧ oc.data = .fields vs ∧ vs[1]? = some (.str qual t)
  | .tab P fresh, a => a = P ∧ ∃ ps, h.get? a = some { cls := .none, data := .fields ps } ∧ (fresh = true → ps = #[])
  | .meth f x, a => ∃ xa, φ[x]? = some xa ∧ h.get? a = some { cls := .type "method", data := .fields #[f, .ref xa] }
  | .citer none, a => h.get? a = some { cls := .type "callable_iterator", data := .fields #[.none, .none, .bool true] }
  | .citer (some m), a => ∃ ma t, φ[m.2]? = some ma ∧ h.get? a = some { cls := .type "callable_iterator", data := .fields #[.ref ma, .str m.1 t, .bool false] }
  | .opq T, a => T ≠ "tuple" ∧ ∃ o, h.get? a = some o ∧ o.cls = .type T ∧ o.dict = none

theorem ORel.map {G : Glob} {h h' : Heap} {X φ X' φ' : List Addr} (k : Sim h X φ h' X' φ') {ao : AO} {a : Addr} (e : ∀ o, h.get? a = some o → h'.get? a = some o) (x : ORel G h X φ ao a) : ORel G h' X' φ' ao a := by
  cases ao with
  | list l => exact x.elim fun vs x => x.elim fun n x => ⟨vs, n, e _ x.1, x.2.map k⟩
  | ns es => exact x.elim fun m x => ⟨m, x.1.at e, x.2.map k⟩
  | inst C d => exact x.elim fun da x => ⟨da, k.get _ _ x.1, e _ x.2⟩
  | cell v =>
    cases v with
    | none => exact x.elim fun o x => ⟨o, e _ x.1, x.2⟩
    | some v => exact x.elim fun r x => ⟨r, x.1.elim fun o y => ⟨o, e _ y.1, y.2⟩, x.2.map k⟩
  | dict es => exact x.elim fun o x => x.elim fun es' x => x.elim fun ep x => x.elim fun kvs x => ⟨o, es', ep, kvs, e _ x.1, x.2.1, x.2.2.1, x.2.2.2.1, x.2.2.2.2.1, x.2.2.2.2.2.1, x.2.2.2.2.2.2.1, x.2.2.2.2.2.2.2.map k⟩
  | fn sh cs ci => exact x.elim fun c' x => x.elim fun ctv x => x.elim fun doc x => x.elim fun clos x => ⟨c', ctv, doc, clos, k.get _ _ x.1, fun y i q => (x.2.1 y i q).elim fun a z => ⟨a, k.get _ _ z.1, z.2⟩, e _ x.2.2⟩
  | crec q => exact x.elim fun oc x => x.elim fun vs x => x.elim fun t x => ⟨oc, vs, t, e _ x.1, x.2⟩
  | tab P f => exact ⟨x.1, x.2.elim fun ps x => ⟨ps, e _ x.1, x.2⟩⟩
  | meth f y => exact x.elim fun ma x => ⟨ma, k.get _ _ x.1, e _ x.2⟩
  | citer m =>
    cases m with
    | none => exact e _ x
    | some m => exact x.elim fun ma x => x.elim fun t x => ⟨ma, t, k.get _ _ x.1, e _ x.2⟩
  | opq T => exact ⟨x.1, x.2.elim fun o x => ⟨o, e _ x.1, x.2⟩⟩
theorem ORel.mono {G : Glob} {h h' : Heap} {X φ φ' : List Addr} (k : TupK X h h') (p : Pre φ φ') {ao : AO} {a : Addr} (e : ∀ o, h.get? a = some o → h'.get? a = some o) (x : ORel G h X φ ao a) : ORel G h' X φ' ao a := x.map (.of k p) e
theorem no_tup {h : Heap} {a : Addr} {o : Obj} (e : h.get? a = some o) (n : o.cls ≠ .type "tuple" ∨ ∀ vs k, o.data ≠ .seq vs k) : ∃ o, h.get? a = some o ∧ ∀ vs, ¬ h.IsTuple a vs :=
  ⟨o, e, fun vs q => q.elim fun o' q => by
    have := q.1
    rw [e] at this
    cases this
    exact n.elim (fun n => n q.2.1) fun n => q.2.2.elim fun k z => n _ _ z⟩
theorem ORel.exists {G : Glob} {h : Heap} {X φ : List Addr} {ao : AO} {a : Addr} (x : ORel G h X φ ao a) : ∃ o, h.get? a = some o ∧ ∀ vs, ¬ h.IsTuple a vs := by
  cases ao with
  | list l => exact x.elim fun vs x => x.elim fun n x => no_tup x.1 (.inl (show Value.type "list" ≠ Value.type "tuple" by decide))
  | ns es => exact x.elim fun m x => x.1.elim fun o y => y.elim fun es' y => y.elim fun ep y => no_tup y.1 (.inr fun vs k z => by rw [y.2.1] at z; cases z)
  | inst C d => exact x.elim fun da x => no_tup x.2 (.inr nofun)
  | cell v =>
    cases v with
    | none => exact x.elim fun o x => no_tup x.1 (.inr fun vs k z => by rw [x.2] at z; cases z)
    | some v => exact x.elim fun r x => x.1.elim fun o y => no_tup y.1 (.inr fun vs k z => by rw [y.2] at z; cases z)
  | dict es => exact x.elim fun o x => x.elim fun es' x => x.elim fun ep x => x.elim fun kvs x => no_tup x.1 (.inr fun vs k z => by rw [x.2.2.1] at z; cases z)
  | fn sh cs ci => exact x.elim fun c' x => x.elim fun ctv x => x.elim fun doc x => x.elim fun clos x => no_tup x.2.2 (.inr nofun)
  | crec q => exact x.elim fun oc x => x.elim fun vs x => x.elim fun t x => no_tup x.1 (.inr fun vs k z => by rw [x.2.1] at z; cases z)
  | tab P f => exact x.2.elim fun ps x => no_tup x.1 (.inr nofun)
  | meth f y => exact x.elim fun ma x => no_tup x.2 (.inr nofun)
  | citer m =>
    cases m with
    | none => exact no_tup x (.inr nofun)
    | some m => exact x.elim fun ma x => x.elim fun t x => no_tup x.2 (.inr nofun)
  | opq T => exact x.2.elim fun o y => no_tup y.1 (.inl fun z => by rw [y.2.1] at z; cases z; exact x.1 rfl)

variable {G : Glob}

structure Hd (G : Glob) (X φ : List Addr) (H : List AO) (s : Shared) : Prop where
  kin : ∀ p ∈ G.K, s.heap.get? p.1 = some p.2
  kφ : ∀ p ∈ G.K, p.1 ∉ φ
  kX : ∀ p ∈ G.K, p.1 ∉ X
  nd : φ.Nodup
  xx : ∀ x ∈ X, ∃ o, s.heap.get? x = some o
  xφ : ∀ x ∈ X, x ∉ φ
  len : φ.length = H.length
  obj : ∀ (i : Nat) (ao : AO), H[i]? = some ao → ∃ a, φ[i]? = some a ∧ ORel G s.heap X φ ao a
  os : s.os = G.os
  gens : s.gens = G.gens

/-- what a step keeps: all that stood before, but the tracked objects and L -/
structure Kp (M : List Addr) (s s' : Shared) : Prop where
  keep : ∀ b o, s.heap.get? b = some o → b ∉ M → s'.heap.get? b = some o
  stay : ∀ b o, s.heap.get? b = some o → ∃ o', s'.heap.get? b = some o'
theorem Kp.refl (M : List Addr) (s : Shared) : Kp M s s := ⟨fun _ _ e _ => e, fun _ o e => ⟨o, e⟩⟩
theorem Kp.more {M M' : List Addr} {s s' : Shared} (k : Kp M s s') (h : ∀ b ∈ M, b ∈ M') : Kp M' s s' := ⟨fun b o e n => k.keep b o e fun q => n (h b q), k.stay⟩

/-- φ' is φ and fresh addresses -/
noncomputable def Nx (φ : List Addr) (s : Shared) (φ' : List Addr) : Prop := ∃ ψ, φ' = φ ++ ψ ∧ ∀ a ∈ ψ, s.heap.get? a = none
theorem Nx.refl (φ : List Addr) (s : Shared) : Nx φ s φ := ⟨[], by simp, fun _ h => nomatch h⟩
theorem Nx.pre {φ φ' : List Addr} {s : Shared} (h : Nx φ s φ') : Pre φ φ' := let ⟨ψ, e, _⟩ := h; ⟨ψ, e⟩
theorem none_of_stay {s s' : Shared} (h : ∀ b o, s.heap.get? b = some o → ∃ o', s'.heap.get? b = some o') {a : Addr} (e : s'.heap.get? a = none) : s.heap.get? a = none := by
  cases q : s.heap.get? a with
  | none => rfl
  | some o => obtain ⟨o', r⟩ := h a o q; rw [e] at r; cases r
theorem Nx.trans {φ φ' φ'' : List Addr} {s s' : Shared} {M : List Addr} (h : Nx φ s φ') (k : Kp M s s') (h' : Nx φ' s' φ'') : Nx φ s φ'' := by
  obtain ⟨a, rfl, ha⟩ := h
  obtain ⟨b, rfl, hb⟩ := h'
  refine ⟨a ++ b, by simp, fun x hx => ?_⟩
  rcases List.mem_append.mp hx with q | q
  · exact ha x q
  · exact none_of_stay k.stay (hb x q)
theorem Kp.trans {M M' : List Addr} {s s' s'' : Shared} (k : Kp M s s') (k' : Kp M' s' s'') (h : ∀ b o, s.heap.get? b = some o → b ∈ M' → b ∈ M) : Kp M s s'' :=
  ⟨fun b o e n => k'.keep b o (k.keep b o e n) fun q => n (h b o e q), fun b o e => by obtain ⟨o', e'⟩ := k.stay b o e; exact k'.stay b o' e'⟩
/-- one behind the other: the second may touch what is new -/
theorem Kp.next {φ φ' L : List Addr} {s s' s'' : Shared} (n : Nx φ s φ') (k : Kp (φ ++ L) s s') (k' : Kp (φ' ++ L) s' s'') : Kp (φ ++ L) s s'' := by
  refine k.trans k' fun b o e hb => ?_
  rcases List.mem_append.mp hb with q | q
  · obtain ⟨ψ, rfl, hψ⟩ := n
    rcases List.mem_append.mp q with q | q
    · exact List.mem_append.mpr (.inl q)
    · rw [hψ b q] at e; cases e
  · exact List.mem_append.mpr (.inr q)
theorem Kp.ofExt {s : Shared} {h' : Heap} {t : Nat} {a : Addr} {M : List Addr} (hs : Heap.ExtBut a s.heap h') (ha : a ∈ M) (hx : ∀ o, s.heap.get? a = some o → ∃ o', h'.get? a = some o') : Kp M s { s with heap := h', toks := t } := by
  refine ⟨fun b o e n => hs b o (fun q => n (q ▸ ha)) e, fun b o e => ?_⟩
  by_cases q : b = a
  · subst q; exact hx o e
  · exact ⟨o, hs b o q e⟩
theorem Kp.ofAll {s : Shared} {h' : Heap} {t : Nat} {M : List Addr} (hs : ∀ b o, s.heap.get? b = some o → h'.get? b = some o) : Kp M s { s with heap := h', toks := t } :=
  ⟨fun b o e _ => hs b o e, fun b o e => ⟨o, hs b o e⟩⟩

section
variable {X φ : List Addr} {H : List AO} {s : Shared}
theorem Hd.at (x : Hd G X φ H s) {i : Nat} {ao : AO} (e : H[i]? = some ao) : ∃ a, φ[i]? = some a ∧ ORel G s.heap X φ ao a := x.obj i ao e
theorem Hd.mem (x : Hd G X φ H s) {a : Addr} (ha : a ∈ φ) : ∃ o, s.heap.get? a = some o ∧ ∀ vs, ¬ s.heap.IsTuple a vs := by
  obtain ⟨i, hi, rfl⟩ := List.mem_iff_getElem.mp ha
  have hi' : i < H.length := by rw [← x.len]; exact hi
  obtain ⟨a', e, r⟩ := x.obj i H[i] (List.getElem?_eq_getElem hi')
  rw [List.getElem?_eq_getElem hi] at e
  cases e
  exact r.exists
/-- nothing of ours is turned -/
theorem Hd.step (x : Hd G X φ H s) {h' : Heap} {t : Nat} (M : List Addr) (hk : ∀ b o, s.heap.get? b = some o → b ∉ M → h'.get? b = some o) (hX : ∀ x ∈ X, x ∈ M → ∃ o, h'.get? x = some o)
    (hM : ∀ b ∈ M, b ∉ φ ∧ (∀ p ∈ G.K, p.1 ≠ b) ∧ (b ∈ X ∨ ∀ vs, ¬ s.heap.IsTuple b vs)) : TupK X s.heap h' ∧ Hd G X φ H { s with heap := h', toks := t } := by
  have tk : TupK X s.heap h' := fun a vs ⟨o, ho, r⟩ hx => ⟨o, hk a o ho fun q => by
    rcases (hM a q).2.2 with z | z
    · exact hx z
    · exact z vs ⟨o, ho, r⟩, r⟩
  refine ⟨tk, ⟨fun p hp => hk _ _ (x.kin p hp) fun q => (hM _ q).2.1 p hp rfl, x.kφ, x.kX, x.nd, fun y hy => ?_, x.xφ, x.len, fun i ao e => ?_, x.os, x.gens⟩⟩
  · by_cases q : y ∈ M
    · exact hX y hy q
    · obtain ⟨o, ho⟩ := x.xx y hy; exact ⟨o, hk y o ho q⟩
  · obtain ⟨a, ha, r⟩ := x.obj i ao e
    exact ⟨a, ha, r.mono tk (.refl φ) fun o ho => hk a o ho fun q => (hM a q).1 (List.mem_of_getElem? ha)⟩
theorem Hd.all (x : Hd G X φ H s) {h' : Heap} {t : Nat} (hk : ∀ b o, s.heap.get? b = some o → h'.get? b = some o) : TupK X s.heap h' ∧ Hd G X φ H { s with heap := h', toks := t } :=
  x.step [] (fun b o e _ => hk b o e) (fun _ _ q => nomatch q) (fun _ q => nomatch q)
/-- a tracked object is turned -/
theorem Hd.turn (x : Hd G X φ H s) {i : Nat} {a : Addr} {ao : AO} {h' : Heap} {t : Nat} (ha : φ[i]? = some a) (hk : Heap.ExtBut a s.heap h') (hr : TupK X s.heap h' → ORel G h' X φ ao a) : TupK X s.heap h' ∧ Hd G X φ (H.set i ao) { s with heap := h', toks := t } := by
  have hm := List.mem_of_getElem? ha
  obtain ⟨o₀, ho₀, nt⟩ := x.mem hm
  have tk : TupK X s.heap h' := fun b vs ⟨o, ho, r⟩ hx => ⟨o, hk b o (fun q => nt vs (q ▸ ⟨o, ho, r⟩)) ho, r⟩
  refine ⟨tk, ⟨fun p hp => hk _ _ (fun q => x.kφ p hp (by rw [q]; exact hm)) (x.kin p hp), x.kφ, x.kX, x.nd, fun y hy => ?_, x.xφ, by rw [List.length_set]; exact x.len, fun j ao' e => ?_, x.os, x.gens⟩⟩
  · obtain ⟨o, ho⟩ := x.xx y hy; exact ⟨o, hk y o (fun q => x.xφ y hy (by rw [q]; exact hm)) ho⟩
  · rw [List.getElem?_set] at e
    by_cases q : i = j
    · subst q
      have hl : i < H.length := by rw [← x.len]; exact (List.getElem?_eq_some_iff.mp ha).1
      simp only [if_true, hl] at e
      cases e
      exact ⟨a, ha, hr tk⟩
    · simp only [if_neg q] at e
      obtain ⟨b, hb, r⟩ := x.obj j ao' e
      refine ⟨b, hb, r.mono tk (.refl φ) fun o ho => hk b o (fun z => ?_) ho⟩
      subst z
      have hi := (List.getElem?_eq_some_iff.mp ha).1
      exact q ((List.getElem?_inj hi x.nd).mp (ha.trans hb.symm))
/-- a new tracked object -/
theorem Hd.new (x : Hd G X φ H s) {a : Addr} {ao : AO} {h' : Heap} {t : Nat} (hn : s.heap.get? a = none) (hk : ∀ b o, s.heap.get? b = some o → h'.get? b = some o) (hr : TupK X s.heap h' → ORel G h' X (φ ++ [a]) ao a) :
    TupK X s.heap h' ∧ Hd G X (φ ++ [a]) (H ++ [ao]) { s with heap := h', toks := t } ∧ Nx φ s (φ ++ [a]) := by
  have tk : TupK X s.heap h' := fun b vs ⟨o, ho, r⟩ hx => ⟨o, hk b o ho, r⟩
  have na : a ∉ φ := fun q => by obtain ⟨o, ho, _⟩ := x.mem q; rw [hn] at ho; cases ho
  refine ⟨tk, ⟨fun p hp => hk _ _ (x.kin p hp), fun p hp q => ?_, x.kX, ?_, fun y hy => ?_, fun y hy q => ?_, by simp [x.len], fun j ao' e => ?_, x.os, x.gens⟩, ⟨[a], rfl, fun b hb => by simp at hb; subst hb; exact hn⟩⟩
  · rcases List.mem_append.mp q with q | q
    · exact x.kφ p hp q
    · simp at q; have := x.kin p hp; rw [q, hn] at this; cases this
  · exact List.nodup_append.mpr ⟨x.nd, by simp, fun b hb c hc e => by simp at hc; subst hc; subst e; exact na hb⟩
  · obtain ⟨o, ho⟩ := x.xx y hy; exact ⟨o, hk y o ho⟩
  · rcases List.mem_append.mp q with q | q
    · exact x.xφ y hy q
    · simp at q; subst q; obtain ⟨o, ho⟩ := x.xx y hy; rw [hn] at ho; cases ho
  · by_cases q : j < H.length
    · rw [List.getElem?_append_left q] at e
      obtain ⟨b, hb, r⟩ := x.obj j ao' e
      exact ⟨b, (Pre.get ⟨[a], rfl⟩ hb), r.mono tk ⟨[a], rfl⟩ fun o ho => hk b o ho⟩
    · rw [List.getElem?_append_right (Nat.le_of_not_lt q)] at e
      have : j - H.length = 0 := by
        cases z : j - H.length with
        | zero => rfl
        | succ n => rw [z] at e; simp at e
      rw [this] at e
      simp at e; subst e
      have hj : j = H.length := by omega
      subst hj
      refine ⟨a, ?_, hr tk⟩
      rw [← x.len, List.getElem?_append_right (Nat.le_refl _)]; simp
end
noncomputable def AV.int? : AV → Option Int
  | .int i => some i
  | _ => none
noncomputable def AV.str? : AV → Option Str
  | .str x => some x
  | _ => none
noncomputable def AV.cst? : AV → Option Value
  | .c v => some v
  | _ => none
noncomputable def AV.obj? : AV → Option Nat
  | .obj n => some n
  | _ => none
noncomputable def AO.list? : AO → Option (List AV)
  | .list l => some l
  | _ => none
theorem AV.int_of {a : AV} {i : Int} (h : a.int? = some i) : a = .int i :=
  elimE (p := fun i => a = .int i) (by cases a <;> first | trivial | rfl) h
theorem AV.str_of {a : AV} {i : Str} (h : a.str? = some i) : a = .str i :=
  elimE (p := fun i => a = .str i) (by cases a <;> first | trivial | rfl) h
theorem AV.cst_of {a : AV} {i : Value} (h : a.cst? = some i) : a = .c i :=
  elimE (p := fun i => a = .c i) (by cases a <;> first | trivial | rfl) h
noncomputable def AV.tup? : AV → Option (List AV)
  | .tup l => some l
  | _ => none
theorem AV.tup_of {a : AV} {i : List AV} (h : a.tup? = some i) : a = .tup i :=
  elimE (p := fun i => a = .tup i) (by cases a <;> first | trivial | rfl) h
theorem AV.obj_of {a : AV} {i : Nat} (h : a.obj? = some i) : a = .obj i :=
  elimE (p := fun i => a = .obj i) (by cases a <;> first | trivial | rfl) h
theorem AO.list_of {a : AO} {i : List AV} (h : a.list? = some i) : a = .list i :=
  elimE (p := fun i => a = .list i) (by cases a <;> first | trivial | rfl) h
noncomputable def listAt (H : List AO) (i : Nat) : Option (List AV) := H[i]?.bind AO.list?
theorem listAt_of {H : List AO} {i : Nat} {l : List AV} (h : listAt H i = some l) : H[i]? = some (.list l) := by
  exact bindE h fun o e h => by rw [e, AO.list_of h]
noncomputable def AO.cell? : AO → Option (Option AV)
  | .cell v => some v
  | _ => none
theorem AO.cell_of {a : AO} {i : Option AV} (h : a.cell? = some i) : a = .cell i :=
  elimE (p := fun i => a = .cell i) (by cases a <;> first | trivial | rfl) h
noncomputable def cellAt (H : List AO) (i : Nat) : Option (Option AV) := H[i]?.bind AO.cell?
theorem cellAt_of {H : List AO} {i : Nat} {l : Option AV} (h : cellAt H i = some l) : H[i]? = some (.cell l) := bindE h fun o e h => by rw [e, AO.cell_of h]
noncomputable def AO.inst? : AO → Option (Addr × Nat)
  | .inst C d => some (C, d)
  | _ => none
theorem AO.inst_of {a : AO} {i : Addr × Nat} (h : a.inst? = some i) : a = .inst i.1 i.2 :=
  elimE (p := fun i => a = .inst i.1 i.2) (by cases a <;> first | trivial | rfl) h
noncomputable def AO.ns? : AO → Option (List (Str × AV))
  | .ns es => some es
  | _ => none
theorem AO.ns_of {a : AO} {i : List (Str × AV)} (h : a.ns? = some i) : a = .ns i :=
  elimE (p := fun i => a = .ns i) (by cases a <;> first | trivial | rfl) h
noncomputable def AO.dict? : AO → Option (List (Str × AV))
  | .dict es => some es
  | _ => none
theorem AO.dict_of {a : AO} {i : List (Str × AV)} (h : a.dict? = some i) : a = .dict i :=
  elimE (p := fun i => a = .dict i) (by cases a <;> first | trivial | rfl) h
noncomputable def dictAt (H : List AO) (i : Nat) : Option (List (Str × AV)) := H[i]?.bind AO.dict?
theorem dictAt_of {H : List AO} {i : Nat} {l : List (Str × AV)} (h : dictAt H i = some l) : H[i]? = some (.dict l) := bindE h fun o e h => by rw [e, AO.dict_of h]
noncomputable def AV.ref? : AV → Option Addr
  | .c (.ref a) => some a
  | _ => none
theorem AV.ref_of {a : AV} {i : Addr} (h : a.ref? = some i) : a = .c (.ref i) :=
  elimE (p := fun i => a = .c (.ref i)) (by cases a with | c v => (cases v <;> first | trivial | rfl) | _ => trivial) h
theorem anyE {α : Type} {x : Option α} {p : α → Bool} {Q : Prop} (h : x.any p = true) (k : ∀ a, x = some a → p a = true → Q) : Q := by
  cases x with
  | none => cases h
  | some a => exact k a rfl h
theorem isSomeE {α : Type} {x : Option α} {Q : Prop} (h : x.isSome = true) (k : ∀ a, x = some a → Q) : Q := by
  cases x with
  | none => cases h
  | some a => exact k a rfl
noncomputable def AO.meth? : AO → Option (Value × Nat)
  | .meth f x => some (f, x)
  | _ => none
theorem AO.meth_of {a : AO} {i : Value × Nat} (h : a.meth? = some i) : a = .meth i.1 i.2 :=
  elimE (p := fun i => a = .meth i.1 i.2) (by cases a <;> first | trivial | rfl) h
noncomputable def methAt (H : List AO) (i : Nat) : Option (Value × Nat) := H[i]?.bind AO.meth?
theorem methAt_of {H : List AO} {i : Nat} {l : Value × Nat} (h : methAt H i = some l) : H[i]? = some (.meth l.1 l.2) := bindE h fun o e h => by rw [e, AO.meth_of h]
theorem methAt_eq {H : List AO} {i : Nat} {f : Value} {x : Nat} (h : H[i]? = some (.meth f x)) : methAt H i = some (f, x) := by unfold methAt; rw [h]; rfl
noncomputable def AO.citer? : AO → Option (Option (Str × Nat))
  | .citer m => some m
  | _ => none
theorem AO.citer_of {a : AO} {i : Option (Str × Nat)} (h : a.citer? = some i) : a = .citer i :=
  elimE (p := fun i => a = .citer i) (by cases a <;> first | trivial | rfl) h
noncomputable def citAt (H : List AO) (i : Nat) : Option (Str × Nat) := H[i]?.bind fun o => o.citer?.bind id
theorem citAt_of {H : List AO} {i : Nat} {l : Str × Nat} (h : citAt H i = some l) : H[i]? = some (.citer (some (l.1, l.2))) := bindE h fun o e h => bindE h fun m e' h => by
  have h : m = some l := h
  rw [e, AO.citer_of e', h]
theorem citAt_eq {H : List AO} {i : Nat} {l : Str × Nat} (h : H[i]? = some (.citer (some l))) : citAt H i = some l := by unfold citAt; rw [h]; rfl
theorem listAt_eq {H : List AO} {i : Nat} {l : List AV} (h : H[i]? = some (.list l)) : listAt H i = some l := by unfold listAt; rw [h]; rfl
end Mine
end
section
open PySem PySem.W PyProof.Rows
set_option Elab.async false
set_option maxRecDepth 100000
set_option linter.all false
set_option autoImplicit false
namespace Mine
noncomputable abbrev Names := Str → Option Value
structure GOk (G : Glob) (mg mb : Names) : Prop where
  main : ∀ h : Heap, (∀ p ∈ G.K, h.get? p.1 = some p.2) → h.Ns mainGlobals mg ∧ h.Ns builtinsNs mb ∧ h.NoLimit

structure Room (n : Nat) (A : Around) : Prop where
  depth : A.depth + n + 1 < recursionLimit
  units : A.units + 30 * n + 60 < cLine
  handled : A.handled = none
theorem Room.le {n m : Nat} {A : Around} (r : Room n A) (h : m ≤ n) : Room m A := ⟨by have := r.depth; omega, by have := r.units; omega, r.handled⟩
theorem Room.deeper {n : Nat} {A : Around} (r : Room (n + 1) A) (e : Env) : Room n (A.deeper e) := ⟨by have := r.depth; simp only [Around.deeper]; omega, by have := r.units; simp only [Around.deeper]; omega, r.handled⟩
theorem Room.in1 {n : Nat} {A : Around} (r : Room (n + 1) A) : Room n A.in1 := ⟨by have := r.depth; simp only [Around.in1]; omega, by have := r.units; simp only [Around.in1]; omega, r.handled⟩

/-- the heap's part of a step -/
structure HPt (G : Glob) (X φ : List Addr) (s : Shared) (H' : List AO) (φ' : List Addr) (s' : Shared) : Prop where
  nx : Nx φ s φ'
  hd : Hd G X φ' H' s'
  kp : Kp φ s s'
theorem HPt.refl {G : Glob} {X φ : List Addr} {s : Shared} {H : List AO} (h : Hd G X φ H s) : HPt G X φ s H φ s := ⟨.refl _ _, h, .refl _ _⟩
theorem Hd.tupK {G : Glob} {X φ M : List Addr} {H : List AO} {s s' : Shared} (h : Hd G X φ H s) (k : Kp (φ ++ M) s s') (hM : ∀ b ∈ M, ∀ vs, ¬ s.heap.IsTuple b vs) : TupK X s.heap s'.heap :=
  fun a vs ht hx => by
    obtain ⟨o, ho, r⟩ := ht
    refine ⟨o, k.keep a o ho fun q => ?_, r⟩
    rcases List.mem_append.mp q with q | q
    · obtain ⟨_, _, n⟩ := h.mem q; exact n vs ⟨o, ho, r⟩
    · exact hM a q vs ⟨o, ho, r⟩
theorem HPt.tupK {G : Glob} {X φ φ' : List Addr} {H H' : List AO} {s s' : Shared} (h : Hd G X φ H s) (p : HPt G X φ s H' φ' s') : TupK X s.heap s'.heap :=
  h.tupK (M := []) (by rw [List.append_nil]; exact p.kp) (fun _ q => nomatch q)
theorem HPt.val {G : Glob} {X φ φ' : List Addr} {H H' : List AO} {s s' : Shared} (h : Hd G X φ H s) (p : HPt G X φ s H' φ' s') {v : AV} {r : Value} (x : VRel s.heap X φ v r) : VRel s'.heap X φ' v r := x.mono (p.tupK h) p.nx.pre
theorem HPt.vals {G : Glob} {X φ φ' : List Addr} {H H' : List AO} {s s' : Shared} (h : Hd G X φ H s) (p : HPt G X φ s H' φ' s') {v : List AV} {r : List Value} (x : VRels s.heap X φ v r) : VRels s'.heap X φ' v r := x.mono (p.tupK h) p.nx.pre
theorem HPt.trans {G : Glob} {X φ φ' φ'' : List Addr} {H' H'' : List AO} {s s' s'' : Shared} (p : HPt G X φ s H' φ' s') (q : HPt G X φ' s' H'' φ'' s'') : HPt G X φ s H'' φ'' s'' :=
  ⟨p.nx.trans p.kp q.nx, q.hd, by
    have := Kp.next (L := []) p.nx (by rw [List.append_nil]; exact p.kp) (by rw [List.append_nil]; exact q.kp)
    rw [List.append_nil] at this; exact this⟩

structure St where
  hp : List AO
  loc : List (Str × AV)
structure Wd (G : Glob) (X φ : List Addr) (L : Addr) (S : St) (s : Shared) : Prop where
  hd : Hd G X φ S.hp s
  Lφ : L ∉ φ
  LX : L ∉ X
  LK : ∀ p ∈ G.K, p.1 ≠ L
  loc : ∃ m, s.heap.Ns L m ∧ NsRel s.heap X φ S.loc m
theorem Wd.Lex {G : Glob} {X φ : List Addr} {L : Addr} {S : St} {s : Shared} (x : Wd G X φ L S s) : ∃ o, s.heap.get? L = some o ∧ ∀ vs, ¬ s.heap.IsTuple L vs := by
  obtain ⟨m, ⟨o, es, ep, ho, hd, _⟩, _⟩ := x.loc
  exact ⟨o, ho, fun vs ⟨o', ho', _, n, hd'⟩ => by rw [ho] at ho'; cases ho'; rw [hd] at hd'; cases hd'⟩
structure Pt (G : Glob) (X φ : List Addr) (L : Addr) (s : Shared) (S' : St) (φ' : List Addr) (s' : Shared) : Prop where
  nx : Nx φ s φ'
  wd : Wd G X φ' L S' s'
  kp : Kp (φ ++ [L]) s s'
theorem Pt.refl {G : Glob} {X φ : List Addr} {L : Addr} {s : Shared} {S : St} (h : Wd G X φ L S s) : Pt G X φ L s S φ s := ⟨.refl _ _, h, .refl _ _⟩
theorem Pt.tupK {G : Glob} {X φ φ' : List Addr} {L : Addr} {S S' : St} {s s' : Shared} (h : Wd G X φ L S s) (p : Pt G X φ L s S' φ' s') : TupK X s.heap s'.heap :=
  h.hd.tupK p.kp fun b hb vs => by simp at hb; subst hb; obtain ⟨_, _, z⟩ := h.Lex; exact z vs
theorem Pt.val {G : Glob} {X φ φ' : List Addr} {L : Addr} {S S' : St} {s s' : Shared} (h : Wd G X φ L S s) (p : Pt G X φ L s S' φ' s') {v : AV} {r : Value} (x : VRel s.heap X φ v r) : VRel s'.heap X φ' v r := x.mono (p.tupK h) p.nx.pre
theorem Pt.vals {G : Glob} {X φ φ' : List Addr} {L : Addr} {S S' : St} {s s' : Shared} (h : Wd G X φ L S s) (p : Pt G X φ L s S' φ' s') {v : List AV} {r : List Value} (x : VRels s.heap X φ v r) : VRels s'.heap X φ' v r := x.mono (p.tupK h) p.nx.pre
theorem Pt.trans {G : Glob} {X φ φ' φ'' : List Addr} {L : Addr} {S' S'' : St} {s s' s'' : Shared} (p : Pt G X φ L s S' φ' s') (q : Pt G X φ' L s' S'' φ'' s'') : Pt G X φ L s S'' φ'' s'' :=
  ⟨p.nx.trans p.kp q.nx, q.wd, Kp.next p.nx p.kp q.kp⟩
/-- a step of the heap alone, within a frame -/
theorem HPt.lift {G : Glob} {X φ φ' : List Addr} {L : Addr} {S : St} {H' : List AO} {s s' : Shared} (h : Wd G X φ L S s) (p : HPt G X φ s H' φ' s') : Pt G X φ L s ⟨H', S.loc⟩ φ' s' := by
  obtain ⟨o, ho, nt⟩ := h.Lex
  have hL := p.kp.keep L o ho h.Lφ
  refine ⟨p.nx, ⟨p.hd, fun q => ?_, h.LX, h.LK, ?_⟩, p.kp.more fun b hb => List.mem_append.mpr (.inl hb)⟩
  · obtain ⟨ψ, rfl, hψ⟩ := p.nx
    rcases List.mem_append.mp q with q | q
    · exact h.Lφ q
    · rw [hψ L q] at ho; cases ho
  · obtain ⟨m, ⟨o', es, ep, ho', r⟩, nr⟩ := h.loc
    rw [ho] at ho'; cases ho'
    exact ⟨m, ⟨_, es, ep, hL, r⟩, nr.mono (p.tupK h.hd) p.nx.pre⟩
theorem Wd.setLoc {G : Glob} {X φ : List Addr} {L : Addr} {S : St} {s : Shared} (h : Wd G X φ L S s) {h' : Heap} {t : Nat} {x : Str} {v : AV} {r : Value} (hv : VRel s.heap X φ v r)
    (hn : ∀ m, s.heap.Ns L m → h'.Ns L (fun y => if y = x then some r else m y)) (hs : Heap.SameBut L s.heap h') : Pt G X φ L s ⟨S.hp, put S.loc x v⟩ φ { s with heap := h', toks := t } := by
  obtain ⟨o, ho, nt⟩ := h.Lex
  have hk : ∀ b o, s.heap.get? b = some o → b ∉ [L] → h'.get? b = some o := fun b o e n => (hs.2 b (by simpa using n)).trans e
  obtain ⟨tk, hd⟩ := h.hd.step (t := t) [L] hk (fun x hx q => by simp at q; subst q; exact absurd hx h.LX) (fun b hb => by simp at hb; subst hb; exact ⟨h.Lφ, h.LK, .inr nt⟩)
  obtain ⟨m, hm, nr⟩ := h.loc
  refine ⟨.refl _ _, ⟨hd, h.Lφ, h.LX, h.LK, ⟨_, hn m hm, (nr.mono tk (.refl φ)).put (hv.mono tk (.refl φ))⟩⟩, fun b o e n => hk b o e fun q => n (List.mem_append.mpr (.inr q)), fun b o e => ?_⟩
  by_cases q : b = L
  · subst q; obtain ⟨o', _, _, e', _⟩ := hn m hm; exact ⟨o', e'⟩
  · exact ⟨o, hk b o e (by simpa using q)⟩

/-- a frame's make -/
structure Fm where
  scope : Scope
  cells : List (Str × Nat)
structure EnvOk (fr : Fm) (env : Env) (φ : List Addr) : Prop where
  scope : env.scope = fr.scope
  kind : fr.scope.kind = .function
  glob : env.globals = mainGlobals
  built : env.builtins = builtinsNs
  cells : ∀ x i, fr.cells.lookup x = some i → ∃ a, φ[i]? = some a ∧ env.cells.lookup x = some a
theorem EnvOk.pre {fr : Fm} {env : Env} {φ φ' : List Addr} (x : EnvOk fr env φ) (p : Pre φ φ') : EnvOk fr env φ' := ⟨x.scope, x.kind, x.glob, x.built, fun n i e => let ⟨a, h, r⟩ := x.cells n i e; ⟨a, p.get h, r⟩⟩
noncomputable abbrev fkind (fr : Fm) (x : Str) : Option NameKind := fr.scope.names.lookup x
end Mine
end
section
open PySem PySem.W PyProof.Rows
set_option Elab.async false
set_option maxRecDepth 100000
set_option linter.all false
set_option autoImplicit false
namespace Mine
noncomputable abbrev RelT (α β : Type) := Heap → List Addr → List Addr → α → β → Prop
noncomputable def Frel : RelT Bool Bool := fun _ _ _ a r => r = a
noncomputable def noE : Value → Shared → Prop := fun _ _ => False
/-- what is asked behind a piece of a frame's code -/
noncomputable def After {α β : Type} (G : Glob) (X φ : List Addr) (L : Addr) (s : Shared) (rel : RelT α β) (a : α) (S' : St) : β → Shared → Prop := fun r s' => ∃ φ', Pt G X φ L s S' φ' s' ∧ rel s'.heap X φ' a r
noncomputable def HAfter {α β : Type} (G : Glob) (X φ : List Addr) (s : Shared) (rel : RelT α β) (a : α) (H' : List AO) : β → Shared → Prop := fun r s' => ∃ φ', HPt G X φ s H' φ' s' ∧ rel s'.heap X φ' a r
noncomputable def TOk {α β : Type} (G : Glob) (n : Nat) (fr : Fm) (m : Env → Sem β) (rel : RelT α β) (F : St → Option (α × St)) : Prop :=
  ∀ (A : Around) (X φ : List Addr) (env : Env) (s : Shared) (S : St) (a : α) (S' : St), Room n A → EnvOk fr env φ → Wd G X φ env.locals S s → F S = some (a, S') →
    wpAny (model G.prog G.w) A (m env) (After G X φ env.locals s rel a S') noE s
noncomputable abbrev EOk (G : Glob) (n : Nat) (fr : Fm) (e : Expr) (F : St → Option (AV × St)) : Prop := TOk G n fr (fun env => eval e env) VRel F
noncomputable abbrev BOk (G : Glob) (n : Nat) (fr : Fm) (e : Expr) (F : St → Option (Bool × St)) : Prop := TOk G n fr (fun env => isTrue e env (eval e env)) Frel F
noncomputable abbrev EsOk (G : Glob) (n : Nat) (fr : Fm) (es : List Expr) (F : St → Option (List AV × St)) : Prop := ∀ pos, TOk G n fr (fun env => spliced (backTo pos (starEach es env))) VRels F
noncomputable def P2Ok {α β : Type} (G : Glob) (n : Nat) (m : Value → Value → Sem β) (rel : RelT α β) (f : List AO → AV → AV → Option (α × List AO)) : Prop :=
  ∀ (A : Around) (X φ : List Addr) (s : Shared) (H : List AO) (a b : AV) (ra rb : Value) (v : α) (H' : List AO), Room n A → Hd G X φ H s → VRel s.heap X φ a ra → VRel s.heap X φ b rb → f H a b = some (v, H') →
    wpAny (model G.prog G.w) A (m ra rb) (HAfter G X φ s rel v H') noE s
noncomputable def P1Ok {α β : Type} (G : Glob) (n : Nat) (m : Value → Sem β) (rel : RelT α β) (f : List AO → AV → Option (α × List AO)) : Prop :=
  ∀ (A : Around) (X φ : List Addr) (s : Shared) (H : List AO) (a : AV) (ra : Value) (v : α) (H' : List AO), Room n A → Hd G X φ H s → VRel s.heap X φ a ra → f H a = some (v, H') →
    wpAny (model G.prog G.w) A (m ra) (HAfter G X φ s rel v H') noE s

section
variable {G : Glob} {n : Nat} {fr : Fm}
theorem noE_any {α : Type} {A : Around} {M : Model} {m : Sem α} {Q : α → Shared → Prop} {E : Value → Shared → Prop} {s : Shared} (h : wpAny M A m Q noE s) : wpAny M A m Q E s := wpAny_mono h (fun _ _ x => x) fun _ _ x => x.elim
theorem wp_then {α β : Type} {A : Around} {M : Model} {m : Sem α} {k : α → Sem β} {Q : α → Shared → Prop} {R : β → Shared → Prop} {s : Shared} (h : wpAny M A m Q noE s) (q : ∀ a s', Q a s' → wpAny M A (k a) R noE s') :
    wpAny M A (m >>= k) R noE s := wpAny_bind (wpAny_mono h q fun _ _ x => x.elim)
theorem wp_mono' {α : Type} {A : Around} {M : Model} {m : Sem α} {Q R : α → Shared → Prop} {s : Shared} (h : wpAny M A m Q noE s) (q : ∀ a s', Q a s' → R a s') : wpAny M A m R noE s := wpAny_mono h q fun _ _ x => x
theorem wp_op {A : Around} {M : Model} {vs : List Value} {m : Sem Value} {Q : Value → Shared → Prop} {s : Shared} (h : wpAny M A m Q noE s) : wpAny M A (operate vs m) Q noE s := PyProof.Rows.wpAny_operate' h

theorem After.of {α β : Type} {X φ φ₁ : List Addr} {L : Addr} {s s₁ : Shared} {S₁ : St} {rel : RelT α β} {a : α} {S' : St} {r : β} {s' : Shared} (p : Pt G X φ L s S₁ φ₁ s₁) (h : After G X φ₁ L s₁ rel a S' r s') : After G X φ L s rel a S' r s' := by
  obtain ⟨φ', q, x⟩ := h
  exact ⟨φ', p.trans q, x⟩
theorem HAfter.lift {α β : Type} {X φ : List Addr} {L : Addr} {s : Shared} {S : St} {rel : RelT α β} {a : α} {H' : List AO} {r : β} {s' : Shared} (w : Wd G X φ L S s) (h : HAfter G X φ s rel a H' r s') : After G X φ L s rel a ⟨H', S.loc⟩ r s' := by
  obtain ⟨φ', p, x⟩ := h
  exact ⟨φ', p.lift w, x⟩
theorem HAfter.of {α β : Type} {X φ φ₁ : List Addr} {s s₁ : Shared} {H₁ : List AO} {rel : RelT α β} {a : α} {H' : List AO} {r : β} {s' : Shared} (p : HPt G X φ s H₁ φ₁ s₁) (h : HAfter G X φ₁ s₁ rel a H' r s') : HAfter G X φ s rel a H' r s' := by
  obtain ⟨φ', q, x⟩ := h
  exact ⟨φ', p.trans q, x⟩
/-- nothing but tokens or garbage -/
theorem HAfter.all {α β : Type} {X φ : List Addr} {s : Shared} {rel : RelT α β} {a : α} {H : List AO} {r : β} {h' : Heap} {t : Nat} (h : Hd G X φ H s) (hk : ∀ b o, s.heap.get? b = some o → h'.get? b = some o) (x : TupK X s.heap h' → rel h' X φ a r) :
    HAfter G X φ s rel a H r { s with heap := h', toks := t } := by
  obtain ⟨tk, hd⟩ := h.all (t := t) hk
  exact ⟨φ, ⟨.refl _ _, hd, .ofAll hk⟩, x tk⟩
theorem HAfter.same {α β : Type} {X φ : List Addr} {s : Shared} {rel : RelT α β} {a : α} {H : List AO} {r : β} {t : Nat} (h : Hd G X φ H s) (x : rel s.heap X φ a r) : HAfter G X φ s rel a H r { s with toks := t } :=
  HAfter.all (h' := s.heap) h (fun _ _ e => e) fun _ => x
theorem HAfter.here {α β : Type} {X φ : List Addr} {s : Shared} {rel : RelT α β} {a : α} {H : List AO} {r : β} (h : Hd G X φ H s) (x : rel s.heap X φ a r) : HAfter G X φ s rel a H r s := ⟨φ, .refl h, x⟩
theorem HAfter.push {α β : Type} {X φ : List Addr} {s : Shared} {rel : RelT α β} {a : α} {H : List AO} {r : β} {t : Nat} {o : Obj} (h : Hd G X φ H s) (x : TupK X s.heap (s.heap.push o) → rel (s.heap.push o) X φ a r) :
    HAfter G X φ s rel a H r { s with heap := s.heap.push o, toks := t } := HAfter.all h (fun _ _ e => Heap.get?_push_of_some _ e) x
theorem fresh_none {h : Heap} : h.get? h.objs.size = none := by
  cases q : h.get? h.objs.size with
  | none => rfl
  | some o => exact absurd (Heap.lt_size q) (Nat.lt_irrefl _)
theorem HAfter.new {α β : Type} {X φ : List Addr} {s : Shared} {rel : RelT α β} {a : α} {H : List AO} {r : β} {t : Nat} {o : Obj} {ao : AO} (h : Hd G X φ H s) (hr : TupK X s.heap (s.heap.push o) → ORel G (s.heap.push o) X (φ ++ [s.heap.objs.size]) ao s.heap.objs.size)
    (x : (φ ++ [s.heap.objs.size])[H.length]? = some s.heap.objs.size → TupK X s.heap (s.heap.push o) → rel (s.heap.push o) X (φ ++ [s.heap.objs.size]) a r) :
    HAfter G X φ s rel a (H ++ [ao]) r { s with heap := s.heap.push o, toks := t } := by
  obtain ⟨tk, hd, nx⟩ := h.new (t := t) (h' := s.heap.push o) (a := s.heap.objs.size) (ao := ao) fresh_none (fun _ _ e => Heap.get?_push_of_some _ e) hr
  refine ⟨_, ⟨nx, hd, .ofAll fun _ _ e => Heap.get?_push_of_some _ e⟩, x ?_ tk⟩
  rw [← h.len, List.getElem?_append_right (Nat.le_refl _)]; simp
theorem HAfter.turn {α β : Type} {X φ : List Addr} {s : Shared} {rel : RelT α β} {a : α} {H : List AO} {r : β} {t : Nat} {h' : Heap} {i : Nat} {b : Addr} {ao : AO} (h : Hd G X φ H s) (hb : φ[i]? = some b) (hk : Heap.ExtBut b s.heap h') (hr : TupK X s.heap h' → ORel G h' X φ ao b)
    (x : TupK X s.heap h' → rel h' X φ a r) : HAfter G X φ s rel a (H.set i ao) r { s with heap := h', toks := t } := by
  obtain ⟨tk, hd⟩ := h.turn (t := t) hb hk hr
  refine ⟨φ, ⟨.refl _ _, hd, .ofExt hk (List.mem_of_getElem? hb) fun o e => ?_⟩, x tk⟩
  obtain ⟨o', e', _⟩ := (hr tk).exists
  exact ⟨o', e'⟩

/-! the leaves -/
theorem eok_int {i : Int} {k : Nat} {pos : Pos} : EOk G n fr (.Constant (.int i) k pos) fun S => some (.int i, S) := by
  intro A X φ env s S a S' hR hE hW h
  cases h
  exact wpAny_Constant_int ((HAfter.same (t := s.toks + 1) hW.hd (.int _ _)).lift hW)
theorem eok_str {x : Str} {k : Nat} {pos : Pos} : EOk G n fr (.Constant (.str x) k pos) fun S => some (.str x, S) := by
  intro A X φ env s S a S' hR hE hW h
  cases h
  exact wpAny_Constant_str ((HAfter.same (t := s.toks + 1) hW.hd (.str _ _)).lift hW)
theorem eok_none {k : Nat} {pos : Pos} : EOk G n fr (.Constant .none k pos) fun S => some (.c .none, S) := by
  intro A X φ env s S a S' hR hE hW h
  cases h
  exact wpAny_Constant_none ((HAfter.here hW.hd (.c _)).lift hW)
theorem eok_bool {b : Bool} {k : Nat} {pos : Pos} : EOk G n fr (.Constant (.bool b) k pos) fun S => some (.c (.bool b), S) := by
  intro A X φ env s S a S' hR hE hW h
  cases h
  exact wpAny_Constant_bool ((HAfter.here hW.hd (.c _)).lift hW)

noncomputable def gval (mg mb : Names) (x : Str) : Option Value := match mg x with
  | some v => some v
  | none => mb x
noncomputable def cellF (fr : Fm) (x : Str) (S : St) : Option (AV × St) := (fr.cells.lookup x).bind fun i => (cellAt S.hp i).bind fun o => o.map (·, S)
noncomputable def nameF (mg mb : Names) (fr : Fm) (x : Str) (S : St) : Option (AV × St) :=
  if fkind fr x = some .local then (S.loc.lookup x).map (·, S) else if fkind fr x = some .cell then cellF fr x S else if fkind fr x = some .free then cellF fr x S else if fkind fr x = some .globalImplicit then (gval mg mb x).map fun v => (.c v, S) else none
theorem nameF_local {mg mb : Names} {fr : Fm} {x : Str} {S : St} (h : fkind fr x = some .local) : nameF mg mb fr x S = (S.loc.lookup x).map (·, S) := if_pos h
theorem nameF_glob {mg mb : Names} {fr : Fm} {x : Str} {S : St} (h : fkind fr x = some .globalImplicit) : nameF mg mb fr x S = (gval mg mb x).map fun v => (.c v, S) := by
  unfold nameF
  rw [h]
  rfl
theorem nameE {mg mb : Names} {fr : Fm} {x : Str} {S S' : St} {v : AV} {Q : Prop} (h : nameF mg mb fr x S = some (v, S')) (k1 : fkind fr x = some .local → S.loc.lookup x = some v → S = S' → Q)
    (k2 : ∀ i, fkind fr x = some .cell ∨ fkind fr x = some .free → fr.cells.lookup x = some i → S.hp[i]? = some (.cell (some v)) → S = S' → Q) (k3 : ∀ w, fkind fr x = some .globalImplicit → gval mg mb x = some w → v = .c w → S = S' → Q) : Q :=
  have cells : (fkind fr x = some .cell ∨ fkind fr x = some .free) → cellF fr x S = some (v, S') → Q := fun q h => bindE h fun i e h => bindE h fun o e2 h => mapE h fun w e3 h => by
    cases h
    subst e3
    exact k2 i q e (cellAt_of e2) rfl
  elseE h (fun q h => mapE h fun w e h => by cases h; exact k1 q e rfl) fun _ h => elseE h (fun q h => cells (.inl q) h) fun _ h => elseE h (fun q h => cells (.inr q) h) fun _ h => iteE h fun q h => mapE h fun w e h => by cases h; exact k3 w q e rfl rfl
theorem tok_loadName {mg mb : Names} (K : GOk G mg mb) {x : Str} (hc : (x == ("__classdict__" : Str)) = false) : TOk G n fr (fun env => loadName env x) VRel (nameF mg mb fr x) := by
  intro A X φ env s S a S' hR hE hW h
  have hk : env.scope.kind = .function := hE.scope ▸ hE.kind
  have hx : env.kindOf x = fkind fr x := by unfold Env.kindOf; rw [hE.scope]
  refine nameE h (fun q e eS => ?_) (fun i q e hv eS => ?_) fun w q e ev eS => ?_
  · subst eS
    obtain ⟨m, hm, nr⟩ := hW.loc
    have z := nr x
    rw [e] at z
    obtain ⟨r, e', hv⟩ := z
    exact wpAny_loadName_local hk (hx.trans q) hm e' ((HAfter.here hW.hd hv).lift hW)
  · subst eS
    obtain ⟨b, hb, hc'⟩ := hE.cells x i e
    obtain ⟨b', hb', r, hr, hv⟩ := hW.hd.obj i _ hv
    cases Option.some.inj (hb.symm.trans hb')
    have fin := (HAfter.here hW.hd hv).lift hW
    rcases q with q | q
    · exact wpAny_loadName_cell hk (hx.trans q) hc' hr fin
    · first
        | exact wpAny_loadName_free hk (hx.trans q) hc' hr fin hc
        | exact wpAny_loadName_free hk (hx.trans q) hc hc' hr fin
  · subst eS ev
    obtain ⟨h1, h2, h3⟩ := K.main s.heap hW.hd.kin
    have fin := (HAfter.here hW.hd (VRel.c w)).lift hW
    unfold gval at e
    unfold loadName
    simp only [Env.blockKind, hk, hx.trans q, ScopeKind.isAnnotationScope, Bool.false_and, Bool.false_eq_true, if_false]
    cases e' : mg x with
    | some v =>
      rw [e'] at e
      cases e
      exact Calls.loadGlobal_global (hE.glob.symm ▸ h1) e' fin
    | none =>
      rw [e'] at e
      exact Calls.loadGlobal_builtin (hE.glob.symm ▸ h1) e' (hE.built.symm ▸ h2) e fin
theorem eok_name {mg mb : Names} (K : GOk G mg mb) {x : Str} {pos : Pos} (hc : (x == ("__classdict__" : Str)) = false) (hd : (x == ("__debug__" : Str)) = false) : EOk G n fr (.Name x pos) (nameF mg mb fr x) := by
  intro A X φ env s S a S' hR hE hW h
  exact wpAny_Name (tok_loadName K hc A X φ env s S a S' hR hE hW h) hd
theorem eok_debug {pos : Pos} : EOk G n fr (.Name "__debug__" pos) fun S => some (.c (.bool true), S) := by
  intro A X φ env s S a S' hR hE hW h
  cases h
  show wpAny _ A (do standAt pos; if ("__debug__" : Str) == ("__debug__" : Str) then debugConstant else loadName env "__debug__") _ _ _
  refine wpAny_bind (wpAny_standAt ?_)
  rw [if_pos (by decide)]
  exact wpAny_bind (wpAny_rule (wpAny_pure ((HAfter.here hW.hd (.c _)).lift hW)))

/-! two operands, then an operation upon the heap -/
noncomputable def two {α : Type} (Fl Fr : St → Option (AV × St)) (f : List AO → AV → AV → Option (α × List AO)) (S : St) : Option (α × St) := thenO (Fl S) fun a S₁ => thenO (Fr S₁) fun b S₂ => thenO (f S₂.hp a b) fun v H => some (v, ⟨H, S₂.loc⟩)
theorem two_run {α β : Type} {l r : Expr} {Fl Fr : St → Option (AV × St)} {f : List AO → AV → AV → Option (α × List AO)} {rel : RelT α β} {m : Value → Value → Sem β} (hl : EOk G n fr l Fl) (hr : EOk G n fr r Fr) (hm : P2Ok G n m rel f)
    {A : Around} {X φ : List Addr} {env : Env} {s : Shared} {S : St} {a : α} {S' : St} (hR : Room n A) (hE : EnvOk fr env φ) (hW : Wd G X φ env.locals S s) (h : two Fl Fr f S = some (a, S')) :
    wpAny (model G.prog G.w) A (eval l env) (fun x s₁ => wpAny (model G.prog G.w) A (eval r env) (fun y s₂ => wpAny (model G.prog G.w) A (m x y) (After G X φ env.locals s rel a S') noE s₂) noE s₁) noE s := by
  first | refine thenE h fun va S₁ e1 h => ?_ | refine map2E h fun va S₁ e1 h => ?_
  first | refine thenE h fun vb S₂ e2 h => ?_ | refine map2E h fun vb S₂ e2 h => ?_
  first | refine thenE h fun v H e3 h => ?_ | refine map2E h fun v H e3 h => ?_
  cases h
  refine wp_mono' (hl A X φ env s S va S₁ hR hE hW e1) fun x s₁ ⟨φ₁, p₁, hx⟩ => ?_
  refine wp_mono' (hr A X φ₁ env s₁ S₁ vb S₂ hR (hE.pre p₁.nx.pre) p₁.wd e2) fun y s₂ ⟨φ₂, p₂, hy⟩ => ?_
  refine wp_mono' (hm A X φ₂ s₂ S₂.hp va vb x y a H hR p₂.wd.hd (p₂.val p₁.wd hx) hy e3) fun z s₃ h₃ => ?_
  exact .of (p₁.trans p₂) (h₃.lift p₂.wd)
theorem eok_bin {l r : Expr} {op : Operator} {pos : Pos} {Fl Fr : St → Option (AV × St)} {f : List AO → AV → AV → Option (AV × List AO)} (hl : EOk G n fr l Fl) (hr : EOk G n fr r Fr) (hm : P2Ok G n (binaryOp op) VRel f) :
    EOk G n fr (.BinOp l op r pos) (two Fl Fr f) := by
  intro A X φ env s S a S' hR hE hW h
  show wpAny _ A (do let a ← eval l env; let b ← holding [a] (eval r env); standAt pos; operate [a, b] (binaryOp op a b)) _ _ _
  refine wp_then (two_run hl hr hm hR hE hW h) fun x s₁ h₁ => ?_
  refine wpAny_bind (wpAny_holding (wp_mono' h₁ fun y s₂ h₂ => ?_))
  exact wpAny_bind (wpAny_standAt (wp_op h₂))
/-- a comparison's outcome is a bool -/
noncomputable def Brel : RelT Bool Value := fun _ _ _ b r => r = .bool b
theorem eok_cmp {l r : Expr} {op : CmpOp} {pos : Pos} {Fl Fr : St → Option (AV × St)} {f : List AO → AV → AV → Option (Bool × List AO)} (hl : EOk G n fr l Fl) (hr : EOk G n fr r Fr) (hm : P2Ok G n (compareOp op) Brel f) (hb : behindInMarks op r = false) :
    EOk G n fr (.Compare l [op] [r] pos) (fun S => (two Fl Fr f S).map fun p => (.c (.bool p.1), p.2)) := by
  intro A X φ env s S a S' hR hE hW h
  dsimp only at h
  first | refine thenE h fun b S₁ e h => ?_ | refine map2E h fun b S₁ e h => ?_
  cases h
  refine wpAny_Compare1 (wp_mono' (two_run hl hr hm hR hE hW e) fun x s₁ h₁ => wp_mono' h₁ fun y s₂ h₂ => wp_mono' h₂ fun z s₃ h₃ => ?_) hb
  obtain ⟨φ', p, q⟩ := h₃
  subst q
  exact ⟨φ', p, .c _⟩
theorem bok_cmp {l r : Expr} {op : CmpOp} {pos : Pos} {Fl Fr : St → Option (AV × St)} {f : List AO → AV → AV → Option (Bool × List AO)} (hl : EOk G n fr l Fl) (hr : EOk G n fr r Fr) (hm : P2Ok G n (compareOp op) Brel f) (hb : behindInMarks op r = false) :
    BOk G n fr (.Compare l [op] [r] pos) (two Fl Fr f) := by
  intro A X φ env s S a S' hR hE hW h
  refine wpAny_isTrue_Compare1 (wp_mono' (two_run hl hr hm hR hE hW h) fun x s₁ h₁ => wp_mono' h₁ fun y s₂ h₂ => wp_mono' h₂ fun z s₃ h₃ => ?_) hb
  obtain ⟨φ', p, q⟩ := h₃
  subst q
  exact wpAny_truthy_bool ⟨φ', p, rfl⟩

noncomputable def test {α : Type} (Fb : St → Option (Bool × St)) (Ft Fe : St → Option α) (S : St) : Option α := thenO (Fb S) fun b S₁ => cond b (Ft S₁) (Fe S₁)
theorem eok_ifexp {t b o : Expr} {pos : Pos} {Fb : St → Option (Bool × St)} {Ft Fe : St → Option (AV × St)} (ht : BOk G n fr t Fb) (hb : EOk G n fr b Ft) (ho : EOk G n fr o Fe) : EOk G n fr (.IfExp t b o pos) (test Fb Ft Fe) := by
  intro A X φ env s S a S' hR hE hW h
  first | refine thenE h fun c S₁ e h => ?_ | refine map2E h fun c S₁ e h => ?_
  refine wpAny_IfExp (wp_mono' (ht A X φ env s S c S₁ hR hE hW e) fun x s₁ ⟨φ₁, p₁, q⟩ => ?_)
  have q : x = c := q
  subst q
  cases x with
  | true => exact wp_mono' (hb A X φ₁ env s₁ S₁ a S' hR (hE.pre p₁.nx.pre) p₁.wd h) fun _ _ z => .of p₁ z
  | false => exact wp_mono' (ho A X φ₁ env s₁ S₁ a S' hR (hE.pre p₁.nx.pre) p₁.wd h) fun _ _ z => .of p₁ z

/-! lists of expressions -/
theorem esok_nil : EsOk G n fr [] fun S => some ([], S) := by
  intro pos A X φ env s S a S' hR hE hW h
  cases h
  exact Calls.spliced_nil ⟨φ, .refl hW, .nil⟩
noncomputable def consF (F : St → Option (AV × St)) (Fs : St → Option (List AV × St)) (S : St) : Option (List AV × St) := thenO (F S) fun v S₁ => thenO (Fs S₁) fun l S₂ => some (v :: l, S₂)
theorem esok_cons {e : Expr} {es : List Expr} {F : St → Option (AV × St)} {Fs : St → Option (List AV × St)} (he : EOk G n fr e F) (hs : EsOk G n fr es Fs) (hst : ∀ env, starEach (e :: es) env = (false, eval e env) :: starEach es env) :
    EsOk G n fr (e :: es) (consF F Fs) := by
  intro pos A X φ env s S a S' hR hE hW h
  first | refine thenE h fun v S₁ e1 h => ?_ | refine map2E h fun v S₁ e1 h => ?_
  first | refine thenE h fun l S₂ e2 h => ?_ | refine map2E h fun l S₂ e2 h => ?_
  cases h
  show wpAny _ A (spliced (backTo pos (starEach (e :: es) env))) _ _ _
  rw [hst env]
  show wpAny _ A (spliced ((false, eval e env) :: backTo pos (starEach es env))) _ _ _
  refine Calls.spliced_cons (wp_mono' (he A X φ env s S v S₁ hR hE hW e1) fun x s₁ ⟨φ₁, p₁, hx⟩ => ?_)
  refine wp_mono' (hs pos A X φ₁ env s₁ S₁ l S' hR (hE.pre p₁.nx.pre) p₁.wd e2) fun y s₂ ⟨φ₂, p₂, hy⟩ => ?_
  exact ⟨φ₂, p₁.trans p₂, .cons (p₂.val p₁.wd hx) hy⟩
theorem isTuple_push {h : Heap} {vs : List Value} : (h.push { cls := .type "tuple", data := .seq vs.toArray }).IsTuple h.objs.size vs.toArray := ⟨_, Heap.get?_push_size _ rfl, rfl, 0, rfl⟩
theorem isList_push {h : Heap} {vs : List Value} : (h.push { cls := .type "list", data := .seq vs.toArray }).IsList h.objs.size vs.toArray := ⟨_, Heap.get?_push_size _ rfl, rfl, 0, rfl⟩
theorem Hd.notX {X φ : List Addr} {H : List AO} {s : Shared} (h : Hd G X φ H s) : s.heap.objs.size ∉ X := fun q => by
  obtain ⟨o, e⟩ := h.xx _ q
  exact absurd (Heap.lt_size e) (Nat.lt_irrefl _)
theorem after_tuple {X φ : List Addr} {H : List AO} {s : Shared} {l : List AV} {vs : List Value} (h : Hd G X φ H s) (hv : VRels s.heap X φ l vs) :
    HAfter G X φ s VRel (.tup l) H (.ref s.heap.objs.size) { s with heap := s.heap.push { cls := .type "tuple", data := .seq vs.toArray } } :=
  HAfter.push (t := s.toks) h fun tk => .tup h.notX isTuple_push (hv.mono tk (.refl φ))
theorem after_list {X φ : List Addr} {H : List AO} {s : Shared} {l : List AV} {vs : List Value} (h : Hd G X φ H s) (hv : VRels s.heap X φ l vs) :
    HAfter G X φ s VRel (.obj H.length) (H ++ [.list l]) (.ref s.heap.objs.size) { s with heap := s.heap.push { cls := .type "list", data := .seq vs.toArray } } :=
  HAfter.new (t := s.toks) h (fun tk => ⟨vs, 0, Heap.get?_push_size _ rfl, hv.mono tk ⟨_, rfl⟩⟩) fun e tk => .obj e
noncomputable def short {α : Type} (F : St → Option (List AV × St)) (k : List AV → St → α) (S : St) : Option α := thenO (F S) fun l S₁ => if l.length ≤ 4096 then some (k l S₁) else none
theorem le_line {n : Nat} (h : n ≤ 4096) : n ≤ sizeLine := by rw [sizeLine_eq]; omega
theorem eok_tuple {es : List Expr} {k : Nat} {pos : Pos} {F : St → Option (List AV × St)} (h : EsOk G n fr es F) : EOk G n fr (.Tuple es k pos) (short F fun l S => (.tup l, S)) := by
  intro A X φ env s S a S' hR hE hW e
  first | refine thenE e fun l S₁ e1 e => ?_ | refine map2E e fun l S₁ e1 e => ?_
  refine iteE e fun hl e => ?_
  cases e
  refine wpAny_Tuple_spliced (wp_mono' (h pos A X φ env s S l S' hR hE hW e1) fun vs s₁ ⟨φ₁, p₁, hx⟩ => ⟨le_line (hx.length ▸ hl), ?_⟩)
  exact .of p₁ ((after_tuple p₁.wd.hd hx).lift p₁.wd)
theorem eok_list {es : List Expr} {pos : Pos} {F : St → Option (List AV × St)} (h : EsOk G n fr es F) : EOk G n fr (.List es pos) (short F fun l S => (.obj S.hp.length, ⟨S.hp ++ [.list l], S.loc⟩)) := by
  intro A X φ env s S a S' hR hE hW e
  first | refine thenE e fun l S₁ e1 e => ?_ | refine map2E e fun l S₁ e1 e => ?_
  refine iteE e fun hl e => ?_
  cases e
  show wpAny _ A (do standAt pos; newList (← spliced (backTo pos (starEach es env)))) _ _ _
  refine wpAny_bind (wpAny_standAt (wp_then (h pos A X φ env s S l S₁ hR hE hW e1) fun vs s₁ ⟨φ₁, p₁, hx⟩ => ?_))
  exact wpAny_newList (.of p₁ ((after_list p₁.wd.hd hx).lift p₁.wd)) (le_line (hx.length ▸ hl))
end
end Mine
end
section
open PySem PySem.W PyProof.Rows
set_option Elab.async false
set_option maxRecDepth 100000
set_option linter.all false
set_option autoImplicit false
namespace Mine
inductive AFl where
  | next | cont | brk
  | ret (v : AV)
noncomputable def FlRel : RelT AFl Flow := fun h X φ a f => match a, f with
  | .next, .next => True
  | .cont, .cont => True
  | .brk, .brk => True
  | .ret v, .ret r => VRel h X φ v r
  | _, _ => False
noncomputable abbrev SOk (G : Glob) (n : Nat) (fr : Fm) (st : Stmt) (F : St → Option (AFl × St)) : Prop := TOk G n fr (fun env => exec st env) FlRel F
noncomputable abbrev BdOk (G : Glob) (n : Nat) (fr : Fm) (b : List Stmt) (F : St → Option (AFl × St)) : Prop := TOk G n fr (fun env => execs b env) FlRel F
/-- a store -/
noncomputable def AsOk (G : Glob) (n : Nat) (fr : Fm) (m : Env → Value → Sem Unit) (Fa : AV → St → Option St) : Prop :=
  ∀ (A : Around) (X φ : List Addr) (env : Env) (s : Shared) (S : St) (v : AV) (r : Value) (S' : St), Room n A → EnvOk fr env φ → Wd G X φ env.locals S s → VRel s.heap X φ v r → Fa v S = some S' →
    wpAny (model G.prog G.w) A (m env r) (fun _ s' => ∃ φ', Pt G X φ env.locals s S' φ' s') noE s
theorem VRels.reverse {h : Heap} {X φ : List Addr} {l : List AV} {vs : List Value} (x : VRels h X φ l vs) : VRels h X φ l.reverse vs.reverse :=
  x.ind (P := fun l vs => VRels h X φ l.reverse vs.reverse) .nil fun a _ ih => by rw [List.reverse_cons, List.reverse_cons]; exact ih.append (.cons a .nil)
section
variable {G : Glob} {n : Nat} {fr : Fm}
theorem FlRel.next {h : Heap} {X φ : List Addr} : FlRel h X φ .next .next := trivial
noncomputable def storeF (fr : Fm) (x : Str) (v : AV) (S : St) : Option St :=
  if fkind fr x = some .local then some ⟨S.hp, put S.loc x v⟩ else if fkind fr x = some .cell then (fr.cells.lookup x).bind fun i => (cellAt S.hp i).bind fun _ => some ⟨S.hp.set i (.cell (some v)), S.loc⟩ else none
theorem storeF_local {fr : Fm} {x : Str} {v : AV} {S : St} (h : fkind fr x = some .local) : storeF fr x v S = some ⟨S.hp, put S.loc x v⟩ := if_pos h
theorem aok_store {x : Str} : AsOk G n fr (fun env v => storeName env x v) (storeF fr x) := by
  intro A X φ env s S v r S' hR hE hW hv h
  have hk : env.scope.kind = .function := hE.scope ▸ hE.kind
  have hx : env.kindOf x = fkind fr x := by unfold Env.kindOf; rw [hE.scope]
  refine elseE h (fun q h => ?_) fun _ h => iteE h fun q h => bindE h fun i hi h => bindE h fun v₀ hv₀ h => ?_
  · cases h
    obtain ⟨m, hm, nr⟩ := hW.loc
    exact wpAny_storeName_local (hx.trans q) hm (fun h' hn hs => ⟨φ, hW.setLoc (t := s.toks + 1) hv (fun m' hm' => by
      obtain ⟨o, es, ep, ho, hd, hk, hf⟩ := hm
      obtain ⟨o', es', ep', ho', hd', hk', hf'⟩ := hm'
      cases Option.some.inj (ho.symm.trans ho')
      cases hd.symm.trans hd'
      have : m = m' := funext fun z => (hf z).symm.trans (hf' z)
      rw [← this]; exact hn) hs⟩) (by rw [hk]; rfl)
  · cases h
    obtain ⟨b, hb, hc⟩ := hE.cells x i hi
    obtain ⟨b', hb', hr⟩ := hW.hd.obj i _ (cellAt_of hv₀)
    cases Option.some.inj (hb.symm.trans hb')
    obtain ⟨r₀, hr₀⟩ : ∃ r₀, s.heap.IsCell b r₀ := by
      cases v₀ with
      | none => exact ⟨_, hr⟩
      | some v₀ => obtain ⟨r, hr, _⟩ := hr; exact ⟨_, hr⟩
    refine wpAny_storeName_cell hk (hx.trans q) hc hr₀ fun h' hc' hs => ?_
    obtain ⟨φ', p, _⟩ := HAfter.turn (rel := fun _ _ _ (_ : Unit) (_ : Unit) => True) (a := ()) (r := ()) (t := s.toks) (ao := .cell (some v)) hW.hd hb (fun c o hc e => (hs.2 c hc).trans e) (fun tk => ⟨r, hc', hv.mono tk (.refl φ)⟩) (fun _ => trivial)
    exact ⟨φ', p.lift hW⟩
theorem aok_bind {x : Str} : AsOk G n fr (fun env v => bindName env x v) (storeF fr x) := by
  intro A X φ env s S v r S' hR hE hW hv h
  exact wpAny_bindName (aok_store A X φ env s S v r S' hR hE hW hv h)
theorem aok_name {x : Str} {pos : Pos} : AsOk G n fr (fun env v => assign (.Name x pos) env v) (storeF fr x) := by
  intro A X φ env s S v r S' hR hE hW hv h
  exact wpAny_assign_Name (aok_store A X φ env s S v r S' hR hE hW hv h)

/-- stores of items, one by one -/
noncomputable def inOrder (Fs : List (AV → St → Option St)) (l : List AV) (S : St) : Option St := match Fs, l with
  | F :: Fs, v :: l => Option.bind (F v S) fun S₁ => inOrder Fs l S₁
  | _, _ => some S
inductive AssOk (G : Glob) (n : Nat) (fr : Fm) : (Env → List (Value → Sem Unit)) → List (AV → St → Option St) → Prop
  | nil : AssOk G n fr (fun _ => []) []
  | cons {m : Env → Value → Sem Unit} {ms : Env → List (Value → Sem Unit)} {F : AV → St → Option St} {Fs : List (AV → St → Option St)} : AsOk G n fr m F → AssOk G n fr ms Fs → AssOk G n fr (fun env => m env :: ms env) (F :: Fs)
theorem inOrder_run {ms : Env → List (Value → Sem Unit)} {Fs : List (AV → St → Option St)} (h : AssOk G n fr ms Fs) : ∀ {A : Around} {X φ : List Addr} {env : Env} {s : Shared} {S : St} {l : List AV} {rs : List Value} {S' : St}, Room n A → EnvOk fr env φ → Wd G X φ env.locals S s → VRels s.heap X φ l rs →
    inOrder Fs l S = some S' → wpAny (model G.prog G.w) A (assignInOrder (ms env) rs) (fun _ s' => ∃ φ', Pt G X φ env.locals s S' φ' s') noE s := by
  induction h with
  | nil =>
    intro A X φ env s S l rs S' hR hE hW hv h
    have : S' = S := by cases l <;> (simp only [inOrder] at h; cases h; rfl)
    subst this
    exact wpAny_assignInOrder_none ⟨φ, .refl hW⟩
  | cons h1 h2 ih =>
    intro A X φ env s S l rs S' hR hE hW hv h
    cases hv with
    | nil =>
      simp only [inOrder] at h; cases h
      exact wpAny_pure ⟨φ, .refl hW⟩
    | cons hr hrs =>
      refine bindE h fun S₁ e h => ?_
      refine wpAny_assignInOrder_more (wp_mono' (h1 A X φ env s S _ _ S₁ hR hE hW hr e) fun _ s₁ ⟨φ₁, p₁⟩ => ?_)
      refine wp_mono' (ih hR (hE.pre p₁.nx.pre) p₁.wd (p₁.vals hW hrs) h) fun _ s₂ ⟨φ₂, p₂⟩ => ⟨φ₂, p₁.trans p₂⟩
noncomputable def tupStore (Fs : List (AV → St → Option St)) (v : AV) (S : St) : Option St := v.tup?.bind fun l => if l.length = Fs.length then inOrder Fs l S else none
theorem AssOk.length {ms : Env → List (Value → Sem Unit)} {Fs : List (AV → St → Option St)} (h : AssOk G n fr ms Fs) : ∀ env, (ms env).length = Fs.length := by
  induction h with
  | nil => intro _; rfl
  | cons _ _ ih => intro env; simp [ih env]
theorem aok_tuple {elts : List Expr} {x1 : Nat} {pos : Pos} {ms : Env → List (Value → Sem Unit)} {Fs : List (AV → St → Option St)} (h : AssOk G n fr ms Fs) (hm : ∀ env, assignEach elts env = (ms env).map fun m => (false, m)) :
    AsOk G n fr (fun env v => assign (.Tuple elts x1 pos) env v) (tupStore Fs) := by
  intro A X φ env s S v r S' hR hE hW hv e
  refine bindE e fun l hl' e => iteE e fun hl e => ?_
  rw [AV.tup_of hl'] at hv
  obtain ⟨a, vs, rfl, hx, ht, hs⟩ := hv.tup_inv
  have hmm : (assignEach elts env).map (·.2) = ms env := by rw [hm]; simp [List.map_map, Function.comp_def]
  refine wpAny_assign_Tuple hR.handled ht (by rw [hm, List.length_map, h.length, ← hl, List.size_toArray, hs.length]) (by rw [hm]; simp [List.findIdx?_eq_none_iff]) fun h' hk => ?_
  rw [hmm]
  obtain ⟨φ', p, _⟩ := HAfter.all (rel := fun _ _ _ (_ : Unit) (_ : Unit) => True) (a := ()) (r := ()) (t := s.toks) (h' := h') hW.hd (fun b o e => hk b o (Nat.ne_of_lt (Heap.lt_size e)) e) (fun _ => trivial)
  have p := p.lift hW
  exact wp_mono' (inOrder_run h hR (hE.pre p.nx.pre) p.wd (p.vals hW hs) e) fun _ s₂ ⟨φ₂, p₂⟩ => ⟨φ₂, p.trans p₂⟩

/-! statements -/
theorem bd_nil : BdOk G n fr [] fun S => some (.next, S) := by
  intro A X φ env s S a S' hR hE hW h
  cases h
  exact wpAny_execs_nil ⟨φ, .refl hW, trivial⟩
/-- what follows a statement: the rest, or nothing -/
noncomputable def thn (fl : AFl) (r : Option (AFl × St)) (S : St) : Option (AFl × St) := match fl with
  | .next => r
  | .cont => some (.cont, S)
  | .brk => some (.brk, S)
  | .ret v => some (.ret v, S)
noncomputable def seqF (F Fs : St → Option (AFl × St)) (S : St) : Option (AFl × St) := thenO (F S) fun fl S₁ => thn fl (Fs S₁) S₁
theorem seq_run {st : Stmt} {rest : List Stmt} {F Fs : St → Option (AFl × St)} {A : Around} {X φ : List Addr} {env : Env} {s : Shared} {S : St} {a : AFl} {S' : St} (e : seqF F Fs S = some (a, S')) (P : Shared → Prop)
    (h : ∀ fl S₁, F S = some (fl, S₁) → wpAny (model G.prog G.w) A (exec st env) (fun f s₁ => P s₁ ∧ After G X φ env.locals s FlRel fl S₁ f s₁) noE s)
    (hs : ∀ S₁ φ₁ s₁, P s₁ → Pt G X φ env.locals s S₁ φ₁ s₁ → Fs S₁ = some (a, S') → wpAny (model G.prog G.w) A (execs rest env) (After G X φ₁ env.locals s₁ FlRel a S') noE s₁) : wpAny (model G.prog G.w) A (execs (st :: rest) env) (After G X φ env.locals s FlRel a S') noE s := by
  refine thenE e fun fl S₁ e1 e2 => wpAny_execs_cons (wp_mono' (h fl S₁ e1) fun f s₁ hz => ?_)
  obtain ⟨hP, φ₁, p₁, hf⟩ := hz
  cases fl with
  | next =>
    cases f <;> first | exact hf.elim | skip
    exact wp_mono' (hs S₁ φ₁ s₁ hP p₁ e2) fun _ _ z => .of p₁ z
  | _ => cases e2; cases f <;> first | exact hf.elim | exact ⟨φ₁, p₁, hf⟩
theorem bd_cons {st : Stmt} {rest : List Stmt} {F Fs : St → Option (AFl × St)} (h : SOk G n fr st F) (hs : BdOk G n fr rest Fs) : BdOk G n fr (st :: rest) (seqF F Fs) := fun A X φ env s S a S' hR hE hW e =>
  seq_run e (fun _ => True) (fun fl S₁ e1 => wp_mono' (h A X φ env s S fl S₁ hR hE hW e1) fun _ _ z => ⟨trivial, z⟩) fun S₁ φ₁ s₁ _ p₁ e2 => hs A X φ₁ env s₁ S₁ a S' hR (hE.pre p₁.nx.pre) p₁.wd e2
theorem sok_return {e : Expr} {pos : Pos} {F : St → Option (AV × St)} (h : EOk G n fr e F) : SOk G n fr (.Return (some e) pos) fun S => (F S).map fun p => (.ret p.1, p.2) := by
  intro A X φ env s S a S' hR hE hW q
  dsimp only at q
  first | refine thenE q fun v S₁ e1 q => ?_ | refine map2E q fun v S₁ e1 q => ?_
  cases q
  exact wpAny_Return_some (wp_mono' (h A X φ env s S v S₁ hR hE hW e1) fun r s₁ ⟨φ₁, p₁, hr⟩ => ⟨φ₁, p₁, hr⟩)
theorem sok_continue {pos : Pos} : SOk G n fr (.Continue pos) fun S => some (.cont, S) := by
  intro A X φ env s S a S' hR hE hW q
  cases q
  show wpAny _ A (do standAt pos; pure Flow.cont) _ _ _
  exact wpAny_bind (wpAny_standAt (wpAny_pure ⟨φ, .refl hW, trivial⟩))
theorem sok_if {t : Expr} {b o : List Stmt} {pos : Pos} {Fb : St → Option (Bool × St)} {Ft Fe : St → Option (AFl × St)} (ht : BOk G n fr t Fb) (hb : BdOk G n fr b Ft) (ho : BdOk G n fr o Fe) : SOk G n fr (.If t b o pos) (test Fb Ft Fe) := by
  intro A X φ env s S a S' hR hE hW h
  first | refine thenE h fun c S₁ e h => ?_ | refine map2E h fun c S₁ e h => ?_
  refine wpAny_If (wp_mono' (ht A X φ env s S c S₁ hR hE hW e) fun x s₁ ⟨φ₁, p₁, q⟩ => ?_)
  have q : x = c := q
  subst q
  cases x with
  | true => exact wp_mono' (hb A X φ₁ env s₁ S₁ a S' hR (hE.pre p₁.nx.pre) p₁.wd h) fun _ _ z => .of p₁ z
  | false => exact wp_mono' (ho A X φ₁ env s₁ S₁ a S' hR (hE.pre p₁.nx.pre) p₁.wd h) fun _ _ z => .of p₁ z
theorem sok_expr {e : Expr} {pos : Pos} {F : St → Option (AV × St)} (h : EOk G n fr e F) (hi : ∀ env : Env, env.scope = fr.scope → interactive env = false) (hs : ∀ env, swapsWith e none pos.line env = pure false) :
    SOk G n fr (.Expr e pos) fun S => (F S).map fun p => (.next, p.2) := by
  intro A X φ env s S a S' hR hE hW q
  dsimp only at q
  first | refine thenE q fun v S₁ e1 q => ?_ | refine map2E q fun v S₁ e1 q => ?_
  cases q
  exact wpAny_Expr_any (wp_mono' (h A X φ env s S v S₁ hR hE hW e1) fun r s₁ ⟨φ₁, p₁, hr⟩ => ⟨φ₁, p₁, trivial⟩) (hi env hE.scope) (hs env)
noncomputable def assignF (F : St → Option (AV × St)) (Fa : AV → St → Option St) (S : St) : Option (AFl × St) := thenO (F S) fun v S₁ => (Fa v S₁).map (.next, ·)
theorem sok_assign {t value : Expr} {pos : Pos} {F : St → Option (AV × St)} {Fa : AV → St → Option St} (h : EOk G n fr value F) (ha : AsOk G n fr (fun env v => assign t env v) Fa)
    (he : ∀ env, assignEach [t] env = [(false, assign t env)]) (hs : ∀ env, swapsWith value (some t) pos.line env = pure false) (hw : ∀ env : Env, env.scope = fr.scope → swappedStores [t] value env = pure none) :
    SOk G n fr (.Assign [t] value pos) (assignF F Fa) := by
  intro A X φ env s S a S' hR hE hW q
  first | refine thenE q fun v S₁ e1 q => ?_ | refine map2E q fun v S₁ e1 q => ?_
  first | refine bindE q fun S₂ e2 q => ?_ | refine mapE q fun S₂ e2 q => ?_
  cases q
  refine wpAny_Assign_stores (wp_mono' (h A X φ env s S v S₁ hR hE hW e1) fun r s₁ ⟨φ₁, p₁, hr⟩ => ?_) (hs env) (hw env hE.scope)
  rw [he]
  show wpAny _ A (assign t env r) _ _ _
  exact wp_mono' (ha A X φ₁ env s₁ S₁ v r S' hR (hE.pre p₁.nx.pre) p₁.wd hr e2) fun _ s₂ ⟨φ₂, p₂⟩ => ⟨φ₂, p₁.trans p₂, trivial⟩
/-- two or three names of one tuple: the last is stored first -/
theorem sok_swapped {t value : Expr} {pos : Pos} {F : St → Option (AV × St)} {names : List Str} (h : EOk G n fr value F) (hs : ∀ env, swapsWith value (some t) pos.line env = pure false) (hw : ∀ env : Env, env.scope = fr.scope → swappedStores [t] value env = pure (some names)) :
    SOk G n fr (.Assign [t] value pos) (assignF F fun v S => v.tup?.bind fun l => if l.length = names.length then inOrder (names.reverse.map (storeF fr)) l.reverse S else none) := by
  intro A X φ env s S a S' hR hE hW q
  first | refine thenE q fun v S₁ e1 q => ?_ | refine map2E q fun v S₁ e1 q => ?_
  show wpAny _ A (exec (.Assign [t] value pos) env) _ _ _
  rw [exec_Assign_arm]
  refine wpAny_bind (wpAny_standAt ?_)
  show wpAny _ A (do if ← swapsWith value (some t) pos.line env then _ else _) _ _ _
  rw [hs env]
  refine wpAny_bind (wpAny_pure ?_)
  rw [if_neg (by decide)]
  refine wp_then (h A X φ env s S v S₁ hR hE hW e1) fun r s₁ ⟨φ₁, p₁, hr⟩ => ?_
  rw [hw env hE.scope]
  refine wpAny_bind (wpAny_pure ?_)
  refine mapE q fun S₂ e2 q => bindE e2 fun l hl' e2 => iteE e2 fun hl e2 => ?_
  cases q
  rw [AV.tup_of hl'] at hr
  obtain ⟨a, vs, rfl, hx, ht, hvs⟩ := hr.tup_inv
  unfold assignStores
  refine wpAny_bind (wpAny_rule ?_)
  have hn : names.length = vs.toArray.size := by rw [List.size_toArray, hvs.length, hl]
  rw [hn]
  refine wpAny_bind (wpAny_unpackItems_tuple hR.handled ht fun h' hk => ?_)
  obtain ⟨φ', p, _⟩ := HAfter.all (rel := fun _ _ _ (_ : Unit) (_ : Unit) => True) (a := ()) (r := ()) (t := s₁.toks) (h' := h') p₁.wd.hd (fun b o e => hk b o (Nat.ne_of_lt (Heap.lt_size e)) e) (fun _ => trivial)
  have p := p.lift p₁.wd
  have ass : AssOk G n fr (fun env => names.reverse.map fun n => bindName env n) (names.reverse.map (storeF fr)) := by
    generalize names.reverse = ns
    induction ns with
    | nil => exact .nil
    | cons x r ih => exact .cons aok_bind ih
  refine wp_then (inOrder_run ass hR (hE.pre (p₁.trans p).nx.pre) p.wd (p.vals p₁.wd hvs).reverse e2) fun _ s₂ ⟨φ₂, p₂⟩ => ?_
  exact wpAny_pure ⟨φ₂, (p₁.trans p).trans p₂, trivial⟩
end
end Mine
end
section
open PySem PySem.W PyProof.Rows
set_option Elab.async false
set_option maxRecDepth 100000
set_option linter.all false
set_option autoImplicit false
namespace Mine
noncomputable abbrev FnT := List AO → List AV → List (Str × AV) → Option (AV × List AO)
noncomputable def FOk (G : Glob) (n : Nat) (f : Value) (F : FnT) : Prop :=
  ∀ (A : Around) (X φ : List Addr) (s : Shared) (H : List AO) (args : List AV) (kw : List (Str × AV)) (vs : List Value) (kvs : List (Str × Value)) (v : AV) (H' : List AO), Room n A → Hd G X φ H s → VRels s.heap X φ args vs →
    kvs.map (·.1) = kw.map (·.1) → VRels s.heap X φ (kw.map (·.2)) (kvs.map (·.2)) → F H args kw = some (v, H') → wpAny (model G.prog G.w) A (call f vs kvs) (HAfter G X φ s VRel v H') noE s
noncomputable def plainKeeper (k : Keeper) : Prop := k = .frame ∨ k = .machine ∨ k = .boundFrame
noncomputable def KeepOk (G : Glob) (f : Value) : Prop :=
  ∀ (A : Around) (X φ : List Addr) (s : Shared) (H : List AO) (Q : Keeper → Shared → Prop), Hd G X φ H s → (∀ k, plainKeeper k → Q k s) → wpAny (model G.prog G.w) A (keeperOf f) Q noE s
section
variable {G : Glob} {n : Nat} {fr : Fm}
theorem evalArgs_gen {A : Around} {M : Model} {s : Shared} {f : Value} {args : List (Bool × Sem Value)} {kws : List (Option Str × Sem Value)} {Q : Args → Shared → Prop} (hst : args.any (·.1) = false) (hkw : kws.any (·.1.isNone) = false)
    (h : wpAny M A (spliced args) (fun vs s₁ => wpAny M A (evalAll (kws.map (·.2))) (fun ks s₂ => Q ⟨vs, (kws.filterMap (·.1)).zip ks⟩ s₂) noE s₁) noE s) : wpAny M A (evalArgs f true args kws) Q noE s := by
  have hall : kws.all (·.1.isSome) = true := by
    rw [List.all_eq_true]; intro x hx
    have := List.any_eq_false.mp hkw x hx
    cases e : x.1 <;> simp_all
  cases args with
  | nil =>
    refine evalArgs_kw_nil hall ?_
    exact fun Γ p hΓ => (h Γ p hΓ) Γ p hΓ
  | cons p rest =>
    obtain ⟨b, x⟩ := p
    have hb : b = false := by
      cases b with
      | false => rfl
      | true => simp at hst
    subst hb
    exact evalArgs_kw hall h
theorem callWith_gen {A : Around} {M : Model} {s : Shared} {pos : Pos} {f : Value} {first : List Value} {args : List (Bool × Sem Value)} {kws : List (Option Str × Sem Value)} {Q : Value → Shared → Prop} (hst : args.any (·.1) = false) (hkw : kws.any (·.1.isNone) = false)
    (h : wpAny M A (spliced args) (fun vs s₁ => wpAny M A (evalAll (kws.map (·.2))) (fun ks s₂ => wpAny M A (keeperOf f) (fun k s₃ => plainKeeper k ∧ wpAny M A (call f (first ++ vs) ((kws.filterMap (·.1)).zip ks)) Q noE s₃) noE s₂) noE s₁) noE s) :
    wpAny M A (callWith pos f first args kws) Q noE s := by
  unfold callWith
  refine wpAny_bind (wpAny_holding (evalArgs_gen hst hkw (wp_mono' h fun vs s₁ h₁ => wp_mono' h₁ fun ks s₂ h₂ => ?_)))
  refine wpAny_bind (wpAny_standAt ?_)
  rw [hst, hkw]
  have tail : ∀ {t : Sem Value} {s : Shared}, wpAny M A t Q noE s → wpAny M A (t >>= fun r => holding [r] point >>= fun _ => pure r) Q noE s :=
    fun ht => wp_then ht (fun r s₂ hr => wpAny_bind (wpAny_holding (wpAny_point (wpAny_pure hr))))
  refine wp_then h₂ fun k s₃ ⟨hk, h₃⟩ => ?_
  rcases hk with rfl | rfl | rfl
  · show wpAny M A (if args.length + 2 * kws.length > 30 then (call f (first ++ vs) ((kws.filterMap (·.1)).zip ks) >>= fun r => holding [r] point >>= fun _ => pure r) else (callMarked plainCall f (first ++ vs) ((kws.filterMap (·.1)).zip ks) >>= fun r => holding [r] point >>= fun _ => pure r)) Q noE s₃
    split
    · exact tail h₃
    · exact tail (by unfold callMarked; exact Calls.wpAny_keep h₃)
  · exact tail h₃
  · show wpAny M A (if args.length + 2 * kws.length > 30 then (call f (first ++ vs) ((kws.filterMap (·.1)).zip ks) >>= fun r => holding [r] point >>= fun _ => pure r) else (callMarked callOfAMethodObject f (first ++ vs) ((kws.filterMap (·.1)).zip ks) >>= fun r => holding [r] point >>= fun _ => pure r)) Q noE s₃
    split
    · exact tail h₃
    · exact tail (by unfold callMarked; exact Calls.wpAny_keep h₃)

/-- keywords, told by their names -/
structure KwsOk (G : Glob) (n : Nat) (fr : Fm) (kws : List Keyword) (nms : List Str) (F : St → Option (List AV × St)) : Prop where
  run : ∀ pos, TOk G n fr (fun env => evalAll ((backToKw pos (keywordEach kws env)).map (·.2))) VRels F
  names : ∀ pos env, (backToKw pos (keywordEach kws env)).filterMap (·.1) = nms
  plain : ∀ pos env, (backToKw pos (keywordEach kws env)).any (·.1.isNone) = false
  len : ∀ S l S', F S = some (l, S') → l.length = nms.length
theorem kws_nil : KwsOk G n fr [] [] fun S => some ([], S) := by
  refine ⟨fun pos A X φ env s S a S' hR hE hW h => ?_, fun _ _ => rfl, fun _ _ => rfl, fun S l S' h => by cases h; rfl⟩
  cases h
  exact wpAny_evalAll_nil ⟨φ, .refl hW, .nil⟩
theorem kws_cons {name : Str} {e : Expr} {p : Pos} {kws : List Keyword} {names : List Str} {F : St → Option (AV × St)} {Fs : St → Option (List AV × St)} (he : EOk G n fr e F) (hs : KwsOk G n fr kws names Fs) :
    KwsOk G n fr (⟨some name, e, p⟩ :: kws) (name :: names) (consF F Fs) := by
  refine ⟨fun pos A X φ env s S a S' hR hE hW h => ?_, fun pos env => ?_, fun pos env => ?_, fun S l S' h => ?_⟩
  · first | refine thenE h fun v S₁ e1 h => ?_ | refine map2E h fun v S₁ e1 h => ?_
    first | refine thenE h fun l S₂ e2 h => ?_ | refine map2E h fun l S₂ e2 h => ?_
    cases h
    show wpAny _ A (evalAll ((do let v ← eval e env; standAt pos; pure v) :: (backToKw pos (keywordEach kws env)).map (·.2))) _ _ _
    refine wpAny_evalAll_cons (wp_then (he A X φ env s S v S₁ hR hE hW e1) fun x s₁ ⟨φ₁, p₁, hx⟩ => ?_)
    refine wpAny_bind (wpAny_standAt (wpAny_pure ?_))
    refine wp_mono' (hs.run pos A X φ₁ env s₁ S₁ l S' hR (hE.pre p₁.nx.pre) p₁.wd e2) fun y s₂ ⟨φ₂, p₂, hy⟩ => ?_
    exact ⟨φ₂, p₁.trans p₂, .cons (p₂.val p₁.wd hx) hy⟩
  · have := hs.names pos env
    show name :: (backToKw pos (keywordEach kws env)).filterMap (·.1) = _
    rw [this]
  · exact hs.plain pos env
  · first | refine thenE h fun v S₁ e1 h => ?_ | refine map2E h fun v S₁ e1 h => ?_
    first | refine thenE h fun l' S₂ e2 h => ?_ | refine map2E h fun l' S₂ e2 h => ?_
    cases h
    rw [List.length_cons, List.length_cons, hs.len _ _ _ e2]

/-- arguments, then the call -/
noncomputable def argsF (Fa Fk : St → Option (List AV × St)) (names : List Str) (k : List AV → List (Str × AV) → St → Option (AV × St)) (S : St) : Option (AV × St) := thenO (Fa S) fun as S₁ => thenO (Fk S₁) fun ks S₂ => k as (names.zip ks) S₂
noncomputable def callF (F : FnT) (first : List AV) (as : List AV) (kw : List (Str × AV)) (S : St) : Option (AV × St) := thenO (F S.hp (first ++ as) kw) fun v H => some (v, ⟨H, S.loc⟩)
theorem noStar (es : List Expr) (h : ∀ env, (starEach es env).any (·.1) = false) (pos : Pos) (env : Env) : (backTo pos (starEach es env)).any (·.1) = false := by
  have : (backTo pos (starEach es env)).any (·.1) = (starEach es env).any (·.1) := by unfold backTo; rw [List.any_map]; rfl
  rw [this, h]
theorem zip_map1 {α β : Type} : ∀ {l : List α} {r : List β}, r.length = l.length → (l.zip r).map (·.1) = l
  | [], [], _ => rfl
  | a :: l, b :: r, h => by rw [List.zip_cons_cons, List.map_cons, zip_map1 (by simpa using h)]
theorem zip_map2 {α β : Type} : ∀ {l : List α} {r : List β}, r.length = l.length → (l.zip r).map (·.2) = r
  | [], [], _ => rfl
  | a :: l, b :: r, h => by rw [List.zip_cons_cons, List.map_cons, zip_map2 (by simpa using h)]
theorem call_run {f : Value} {F : FnT} (hf : FOk G n f F) (hk : KeepOk G f) {es : List Expr} {kws : List Keyword} {names : List Str} {Fa Fk : St → Option (List AV × St)} (ha : EsOk G n fr es Fa) (hkw : KwsOk G n fr kws names Fk) (hst : ∀ env, (starEach es env).any (·.1) = false)
    {A : Around} {X φ : List Addr} {env : Env} {s : Shared} {S : St} {v : AV} {S' : St} {first : List AV} {fs : List Value} {pos p' : Pos} (hR : Room n A) (hE : EnvOk fr env φ) (hW : Wd G X φ env.locals S s) (hfs : VRels s.heap X φ first fs) (h : argsF Fa Fk names (callF F first) S = some (v, S')) :
    wpAny (model G.prog G.w) A (callWith p' f fs (backTo pos (starEach es env)) (backToKw pos (keywordEach kws env))) (After G X φ env.locals s VRel v S') noE s := by
  first | refine thenE h fun as S₁ e1 h => ?_ | refine map2E h fun as S₁ e1 h => ?_
  first | refine thenE h fun ks S₂ e2 h => ?_ | refine map2E h fun ks S₂ e2 h => ?_
  first | refine thenE h fun v' H e3 h => ?_ | refine map2E h fun v' H e3 h => ?_
  cases h
  refine callWith_gen (noStar es hst pos env) (hkw.plain pos env) (wp_mono' (ha pos A X φ env s S as S₁ hR hE hW e1) fun vs s₁ ⟨φ₁, p₁, hvs⟩ => ?_)
  refine wp_mono' (hkw.run pos A X φ₁ env s₁ S₁ ks S₂ hR (hE.pre p₁.nx.pre) p₁.wd e2) fun kvs s₂ ⟨φ₂, p₂, hks⟩ => ?_
  refine hk A X φ₂ s₂ S₂.hp _ p₂.wd.hd fun k hpk => ⟨hpk, ?_⟩
  have l1 := hkw.len _ _ _ e2
  have l2 := hks.length
  refine wp_mono' (hf A X φ₂ s₂ S₂.hp (first ++ as) (names.zip ks) (fs ++ vs) _ v H hR p₂.wd.hd ((p₂.vals p₁.wd (p₁.vals hW hfs)).append (p₂.vals p₁.wd hvs)) ?_ ?_ e3) fun r s₃ h₃ => .of (p₁.trans p₂) (h₃.lift p₂.wd)
  · rw [hkw.names, zip_map1 (by omega), zip_map1 (by omega)]
  · rw [hkw.names, zip_map2 (by omega), zip_map2 (by omega)]; exact hks
noncomputable def callNameF (mg mb : Names) (fr : Fm) (g : Str) (f : Value) (F : FnT) (Fa Fk : St → Option (List AV × St)) (names : List Str) (S : St) : Option (AV × St) := thenO (nameF mg mb fr g S) fun a S₁ => a.cst?.bind fun f' => if f' = f then argsF Fa Fk names (callF F []) S₁ else none
theorem eok_call {mg mb : Names} (K : GOk G mg mb) {g : Str} {gp pos : Pos} {f : Value} {F : FnT} (hf : FOk G n f F) (hk : KeepOk G f) {es : List Expr} {kws : List Keyword} {names : List Str} {Fa Fk : St → Option (List AV × St)} (ha : EsOk G n fr es Fa) (hkw : KwsOk G n fr kws names Fk)
    (hst : ∀ env, (starEach es env).any (·.1) = false) (hc : (g == ("__classdict__" : Str)) = false) (hd : (g == ("__debug__" : Str)) = false) :
    EOk G n fr (.Call (.Name g gp) es kws pos) (callNameF mg mb fr g f F Fa Fk names) := by
  intro A X φ env s S v S' hR hE hW h
  refine thenE h fun a S₁ e1 h => bindE h fun f' ea h => iteE h fun hff hz => ?_
  subst hff
  rw [AV.cst_of ea] at e1
  show wpAny _ A (eval (.Call (.Name g gp) es kws pos) env) _ _ _
  rw [arm_eval_Call_Name']
  refine wp_then (eok_name K hc hd A X φ env s S _ S₁ hR hE hW e1) fun r s₁ ⟨φ₁, p₁, hr⟩ => ?_
  cases hr.c_inv
  exact wp_mono' (call_run hf hk ha hkw hst hR (hE.pre p₁.nx.pre) p₁.wd .nil hz) fun _ _ z => .of p₁ z
theorem keep_type {T : String} : KeepOk G (.type T) := fun A X φ s H Q _ h => wpAny_pure (h _ (.inr (.inl rfl)))
theorem keep_builtin {T : String} : KeepOk G (.builtin T) := fun A X φ s H Q _ h => wpAny_pure (h _ (.inr (.inl rfl)))
theorem keep_fun {a : Addr} {o : Obj} {fd : FuncData} (ho : (a, o) ∈ G.K) (hd : o.data = .func fd) : KeepOk G (.ref a) := fun A X φ s H Q hh h => by
  unfold keeperOf
  refine wpAny_bind (wpAny_load (hh.kin _ ho) ?_)
  rw [hd]
  exact wpAny_pure (h _ (.inl rfl))
end
/-! what an abstract value is; functions told by their arguments' kinds -/
theorem no_kw {kw : List (Str × AV)} {kvs : List (Str × Value)} (h : kvs.map (·.1) = kw.map (·.1)) (e : kw = []) : kvs = [] := by
  subst e
  cases kvs with
  | nil => rfl
  | cons p r => simp at h
section
variable {G : Glob} {n : Nat} {fv : Value} {γ δ : Type}
theorem Hd.listE {X φ : List Addr} {s : Shared} {H : List AO} {i : Nat} {l : List AV} {r : Value} {Q : Prop} (hh : Hd G X φ H s) (hl : listAt H i = some l) (ha : VRel s.heap X φ (.obj i) r)
    (k : ∀ a vs m, r = .ref a → φ[i]? = some a → s.heap.get? a = some { cls := .type "list", data := .seq vs.toArray m } → VRels s.heap X φ l vs → Q) : Q := by
  obtain ⟨a, er, e⟩ := ha.obj_inv
  obtain ⟨a', e', vs, m, ho, hv⟩ := hh.obj _ _ (listAt_of hl)
  cases Option.some.inj (e.symm.trans e')
  exact k a vs m er e ho hv
noncomputable def k1 (p : AV → Option γ) (f : List AO → γ → Option (AV × List AO)) : FnT := fun H args kw => match args, kw with
  | [a], [] => (p a).bind (f H)
  | _, _ => none
noncomputable def k2 (p : AV → Option γ) (q : AV → Option δ) (f : List AO → γ → δ → Option (AV × List AO)) : FnT := fun H args kw => match args, kw with
  | [a, b], [] => (p a).bind fun x => (q b).bind fun y => f H x y
  | _, _ => none
theorem k1E {p : AV → Option γ} {f : List AO → γ → Option (AV × List AO)} {H : List AO} {args : List AV} {kw : List (Str × AV)} {r : AV × List AO} {Q : Prop} (e : k1 p f H args kw = some r) (k : ∀ a x, args = [a] → kw = [] → p a = some x → f H x = some r → Q) : Q := by
  cases args with
  | nil => cases e
  | cons a l =>
    cases l with
    | cons b l => cases e
    | nil =>
      cases kw with
      | cons => cases e
      | nil => exact bindE e fun x e1 e2 => k a x rfl rfl e1 e2
theorem k2E {p : AV → Option γ} {q : AV → Option δ} {f : List AO → γ → δ → Option (AV × List AO)} {H : List AO} {args : List AV} {kw : List (Str × AV)} {r : AV × List AO} {Q : Prop} (e : k2 p q f H args kw = some r) (k : ∀ a b x y, args = [a, b] → kw = [] → p a = some x → q b = some y → f H x y = some r → Q) : Q := by
  cases args with
  | nil => cases e
  | cons a l =>
    cases l with
    | nil => cases e
    | cons b l =>
      cases l with
      | cons c l => cases e
      | nil =>
        cases kw with
        | cons => cases e
        | nil => exact bindE e fun x e1 e2 => bindE e2 fun y e3 e4 => k a b x y rfl rfl e1 e3 e4
theorem FOk.k1 {p : AV → Option γ} {ca : γ → AV} {f : List AO → γ → Option (AV × List AO)} (hp : ∀ {a x}, p a = some x → a = ca x)
    (h : ∀ {A : Around} {X φ : List Addr} {s : Shared} {H : List AO} {x : γ} {ra : Value} {v : AV} {H' : List AO}, Room n A → Hd G X φ H s → VRel s.heap X φ (ca x) ra → f H x = some (v, H') → wpAny (model G.prog G.w) A (call fv [ra] []) (HAfter G X φ s VRel v H') noE s) : FOk G n fv (Mine.k1 p f) := by
  intro A X φ s H args kw vs kvs v H' hR hh hv hkn hkv e
  refine k1E e fun a x ea ek e1 e2 => ?_
  subst ea
  cases no_kw hkn ek
  obtain ⟨ra, rfl, h1⟩ := hv.inv1
  exact h hR hh (hp e1 ▸ h1) e2
theorem FOk.k2 {p : AV → Option γ} {q : AV → Option δ} {ca : γ → AV} {cb : δ → AV} {f : List AO → γ → δ → Option (AV × List AO)} (hp : ∀ {a x}, p a = some x → a = ca x) (hq : ∀ {a x}, q a = some x → a = cb x)
    (h : ∀ {A : Around} {X φ : List Addr} {s : Shared} {H : List AO} {x : γ} {y : δ} {ra rb : Value} {v : AV} {H' : List AO}, Room n A → Hd G X φ H s → VRel s.heap X φ (ca x) ra → VRel s.heap X φ (cb y) rb → f H x y = some (v, H') → wpAny (model G.prog G.w) A (call fv [ra, rb] []) (HAfter G X φ s VRel v H') noE s) : FOk G n fv (Mine.k2 p q f) := by
  intro A X φ s H args kw vs kvs v H' hR hh hv hkn hkv e
  refine k2E e fun a b x y ea ek e1 e2 e3 => ?_
  subst ea
  cases no_kw hkn ek
  obtain ⟨ra, rb, rfl, h1, h2⟩ := hv.inv2
  exact h hR hh (hp e1 ▸ h1) (hq e2 ▸ h2) e3
theorem FOk.or {F K : FnT} (h : FOk G n fv F) (k : FOk G n fv K) : FOk G n fv fun H args kw => (F H args kw).or (K H args kw) := fun A X φ s H args kw vs kvs v H' hR hh hv hkn hkv e =>
  orE e (fun e => h A X φ s H args kw vs kvs v H' hR hh hv hkn hkv e) fun e => k A X φ s H args kw vs kvs v H' hR hh hv hkn hkv e
end
section
variable {γ δ ε : Type} {Q : Prop}
noncomputable def l1 (p : AV → Option γ) (f : γ → Option ε) : List AV → Option ε
  | [a] => (p a).bind f
  | _ => none
noncomputable def l2 (p : AV → Option γ) (q : AV → Option δ) (f : γ → δ → Option ε) : List AV → Option ε
  | [a, b] => (p a).bind fun x => (q b).bind fun y => f x y
  | _ => none
theorem l1E {h : Heap} {X φ : List Addr} {p : AV → Option γ} {f : γ → Option ε} {l : List AV} {vs : List Value} {r : ε} (e : l1 p f l = some r) (hv : VRels h X φ l vs) (k : ∀ a x ra, p a = some x → f x = some r → vs = [ra] → VRel h X φ a ra → Q) : Q := by
  cases l with
  | nil => cases e
  | cons a l =>
    cases l with
    | cons b l => cases e
    | nil =>
      obtain ⟨ra, e1, h1⟩ := hv.inv1
      exact bindE e fun x e2 e3 => k a x ra e2 e3 e1 h1
theorem l2E {h : Heap} {X φ : List Addr} {p : AV → Option γ} {q : AV → Option δ} {f : γ → δ → Option ε} {l : List AV} {vs : List Value} {r : ε} (e : l2 p q f l = some r) (hv : VRels h X φ l vs) (k : ∀ a b x y ra rb, p a = some x → q b = some y → f x y = some r → vs = [ra, rb] → VRel h X φ a ra → VRel h X φ b rb → Q) : Q := by
  cases l with
  | nil => cases e
  | cons a l =>
    cases l with
    | nil => cases e
    | cons b l =>
      cases l with
      | cons c l => cases e
      | nil =>
        obtain ⟨ra, rb, e1, h1, h2⟩ := hv.inv2
        exact bindE e fun x e2 e3 => bindE e3 fun y e4 e5 => k a b x y ra rb e2 e4 e5 e1 h1 h2
end
end Mine
end
section
open PySem PySem.W PyProof.Rows
set_option Elab.async false
set_option maxRecDepth 100000
set_option linter.all false
set_option autoImplicit false
namespace Mine
noncomputable def layA : List (Str × NameKind) → List (Str × Nat) → List AO → List (Str × Nat) × List AO
  | [], cs, H => (cs, H)
  | (n, k) :: r, cs, H => if k = .cell then layA r ((n, H.length) :: cs) (H ++ [.cell none]) else layA r cs H
noncomputable def storeAll (fr : Fm) : List (Str × AV) → St → Option St
  | [], S => some S
  | (n, v) :: r, S => Option.bind (storeF fr n v S) fun S₁ => storeAll fr r S₁
section
variable {G : Glob} {n : Nat} {A : Around}
theorem lay_cells {X : List Addr} (f : Str × NameKind → List (Str × Addr) → Sem (ForInStep (List (Str × Addr))))
    (hf : ∀ n k cells, f (n, k) cells = if k = .cell then (do let a ← alloc { cls := .type "cell", data := .cell none }; pure (.yield ((n, a) :: cells))) else pure (.yield cells)) :
    ∀ (names : List (Str × NameKind)) (cells : List (Str × Addr)) (cs : List (Str × Nat)) (H : List AO) (φ : List Addr) (s : Shared), Hd G X φ H s → CellsRel φ cs cells →
      wpAny (model G.prog G.w) A (forIn names cells f) (fun cells' s' => ∃ φ', HPt G X φ s (layA names cs H).2 φ' s' ∧ CellsRel φ' (layA names cs H).1 cells') noE s := by
  intro names
  induction names with
  | nil =>
    intro cells cs H φ s hh hc
    rw [List.forIn_nil]
    exact wpAny_pure ⟨φ, .refl hh, hc⟩
  | cons p r ih =>
    obtain ⟨n, k⟩ := p
    intro cells cs H φ s hh hc
    rw [List.forIn_cons, hf]
    by_cases q : k = .cell
    · subst q
      simp only [if_true, layA]
      refine wpAny_bind (wpAny_bind (wpAny_alloc (wpAny_pure ?_)))
      obtain ⟨φ₁, p₁, e₁⟩ := HAfter.new (rel := fun _ _ φ (_ : Unit) (_ : Unit) => φ[H.length]? = some s.heap.objs.size) (a := ()) (r := ()) (t := s.toks) (o := { cls := .type "cell", data := .cell none }) (ao := .cell none) hh (fun tk => ⟨_, Heap.get?_push_size _ rfl, rfl⟩) (fun e _ => e)
      refine wp_mono' (ih _ ((n, H.length) :: cs) _ φ₁ _ p₁.hd fun x i e => ?_) fun cells' s' ⟨φ', p, c⟩ => ⟨φ', p₁.trans p, c⟩
      by_cases z : x = n
      · subst z
        simp only [List.lookup_cons_self, Option.some.injEq] at e
        subst e
        exact ⟨_, e₁, by simp⟩
      · have z' : (x == n) = false := by simp [z]
        simp only [List.lookup, z'] at e ⊢
        exact (hc.pre p₁.nx.pre) x i e
    · simp only [if_neg q, layA]
      exact wpAny_bind (wpAny_pure (ih cells cs H φ s hh hc))
theorem store_all {fr : Fm} {X : List Addr} {env : Env} (f : Str × Value → PUnit → Sem (ForInStep PUnit)) (hf : ∀ n v u, f (n, v) u = (do storeName env n v; pure (.yield ⟨⟩))) (hR : Room n A) :
    ∀ (binds : List (Str × Value)) (ab : List (Str × AV)) (S S' : St) (φ : List Addr) (s : Shared), EnvOk fr env φ → Wd G X φ env.locals S s → binds.map (·.1) = ab.map (·.1) → VRels s.heap X φ (ab.map (·.2)) (binds.map (·.2)) → storeAll fr ab S = some S' →
      wpAny (model G.prog G.w) A (forIn binds ⟨⟩ f) (fun _ s' => ∃ φ', Pt G X φ env.locals s S' φ' s') noE s := by
  intro binds
  induction binds with
  | nil =>
    intro ab S S' φ s hE hW hn hv h
    cases ab with
    | cons p r => simp at hn
    | nil =>
      cases h
      rw [List.forIn_nil]; exact wpAny_pure ⟨φ, .refl hW⟩
  | cons p r ih =>
    obtain ⟨x, v⟩ := p
    intro ab S S' φ s hE hW hn hv h
    cases ab with
    | nil => simp at hn
    | cons p ab =>
      obtain ⟨y, w⟩ := p
      simp only [List.map_cons, List.cons.injEq] at hn
      obtain ⟨hxy, hn⟩ := hn
      subst hxy
      obtain ⟨_, _, evs, hv, hvs⟩ := hv.cons_inv
      cases evs
      refine bindE h fun S₁ e h => ?_
      rw [List.forIn_cons, hf]
      refine wpAny_bind (wp_then (aok_store A X φ env s S w v S₁ hR hE hW hv e) fun _ s₁ ⟨φ₁, p₁⟩ => ?_)
      refine wpAny_pure ?_
      exact wp_mono' (ih ab S₁ S' φ₁ s₁ (hE.pre p₁.nx.pre) p₁.wd hn (p₁.vals hW hvs) h) fun _ s₂ ⟨φ₂, p₂⟩ => ⟨φ₂, p₁.trans p₂⟩
noncomputable def FirstLocal (scope : Scope) (ab : List (Str × AV)) : Prop := ∃ x v r, ab = (x, v) :: r ∧ scope.names.lookup x = some .local
theorem store_tok {fr : Fm} {x : Str} (hx : fkind fr x = some .local) {X φ : List Addr} {env : Env} {s : Shared} {S : St} {v : AV} {r : Value} {S' : St} (hR : Room n A) (hE : EnvOk fr env φ) (hW : Wd G X φ env.locals S s) (hv : VRel s.heap X φ v r) (h : storeF fr x v S = some S') :
    wpAny (model G.prog G.w) A (storeName env x r) (fun _ s' => (∃ φ', Pt G X φ env.locals s S' φ' s') ∧ 0 < s'.toks) noE s := by
  have hk : env.scope.kind = .function := hE.scope ▸ hE.kind
  have hx' : env.kindOf x = fkind fr x := by unfold Env.kindOf; rw [hE.scope]
  cases (storeF_local hx).symm.trans h
  obtain ⟨m, hm, nr⟩ := hW.loc
  exact wpAny_storeName_local (hx'.trans hx) hm (fun h' hn hs => ⟨⟨φ, hW.setLoc (t := s.toks + 1) hv (fun m' hm' => by
    obtain ⟨o, es, ep, ho, hd, hk, hf⟩ := hm
    obtain ⟨o', es', ep', ho', hd', hk', hf'⟩ := hm'
    cases Option.some.inj (ho.symm.trans ho')
    cases hd.symm.trans hd'
    have : m = m' := funext fun z => (hf z).symm.trans (hf' z)
    rw [← this]; exact hn) hs⟩, Nat.succ_pos _⟩) (by rw [hk]; rfl)
theorem store_pos {fr : Fm} {X : List Addr} {env : Env} (f : Str × Value → PUnit → Sem (ForInStep PUnit)) (hf : ∀ n v u, f (n, v) u = (do storeName env n v; pure (.yield ⟨⟩))) (hR : Room n A)
    (binds : List (Str × Value)) (ab : List (Str × AV)) (S S' : St) (φ : List Addr) (s : Shared) (hE : EnvOk fr env φ) (hW : Wd G X φ env.locals S s) (hn : binds.map (·.1) = ab.map (·.1)) (hv : VRels s.heap X φ (ab.map (·.2)) (binds.map (·.2))) (h : storeAll fr ab S = some S') :
      wpAny (model G.prog G.w) A (forIn binds ⟨⟩ f) (fun _ s' => (∃ φ', Pt G X φ env.locals s S' φ' s') ∧ (FirstLocal fr.scope ab → 0 < s'.toks)) noE s := by
  by_cases hl : FirstLocal fr.scope ab
  · obtain ⟨x, w, rest, rfl, hx⟩ := id hl
    cases binds with
    | nil => simp at hn
    | cons p r =>
      obtain ⟨y, v⟩ := p
      simp only [List.map_cons, List.cons.injEq] at hn
      obtain ⟨rfl, hn⟩ := hn
      obtain ⟨_, _, evs, hv, hvs⟩ := hv.cons_inv
      cases evs
      refine bindE h fun S₁ e h => ?_
      rw [List.forIn_cons, hf]
      refine wpAny_bind (wp_then (store_tok hx hR hE hW hv e) fun _ s₁ ⟨⟨φ₁, p₁⟩, h1⟩ => ?_)
      refine wpAny_pure ?_
      refine wpAny_mono (wpAny_toks_of (n := 1) h1 (store_all f hf hR r rest S₁ S' φ₁ s₁ (hE.pre p₁.nx.pre) p₁.wd hn (p₁.vals hW hvs) h)) (fun _ s₂ ⟨h2, φ₂, p₂⟩ => ⟨⟨φ₂, p₁.trans p₂⟩, fun _ => h2⟩) fun _ _ z => z.2
  · exact wp_mono' (store_all f hf hR binds ab S S' φ s hE hW hn hv h) fun _ _ z => ⟨z, fun q => absurd q hl⟩
/-- a block that may count on a token -/
noncomputable def BdOk1 (G : Glob) (n : Nat) (fr : Fm) (b : List Stmt) (F : St → Option (AFl × St)) (flag : Bool) : Prop :=
  ∀ (A : Around) (X φ : List Addr) (env : Env) (s : Shared) (S : St) (a : AFl) (S' : St), (flag = true → 0 < s.toks) → Room n A → EnvOk fr env φ → Wd G X φ env.locals S s → F S = some (a, S') →
    wpAny (model G.prog G.w) A (execs b env) (After G X φ env.locals s FlRel a S') noE s
/-- a block that may count on its code, too -/
noncomputable def BdOkC (G : Glob) (n : Nat) (fr : Fm) (b : List Stmt) (F : St → Option (AFl × St)) (flag : Bool) (code : Value) (qual : Str) : Prop :=
  ∀ (A : Around) (X φ : List Addr) (env : Env) (s : Shared) (S : St) (a : AFl) (S' : St), (flag = true → 0 < s.toks) → env.code = code → env.qual = qual → Room n A → EnvOk fr env φ → Wd G X φ env.locals S s → F S = some (a, S') →
    wpAny (model G.prog G.w) A (execs b env) (After G X φ env.locals s FlRel a S') noE s
theorem BdOk1.c {b : List Stmt} {fr : Fm} {F : St → Option (AFl × St)} {flag : Bool} {code : Value} {qual : Str} (h : BdOk1 G n fr b F flag) : BdOkC G n fr b F flag code qual := fun A X φ env s S a S' h1 _ _ => h A X φ env s S a S' h1
/-- a frame is made -/
noncomputable def NewFr (G : Glob) (X φ : List Addr) (s : Shared) (scope : Scope) (cs : List (Str × Nat)) (S' : St) (code : Value) (qual : Str) (ab : List (Str × AV)) : Env → Shared → Prop := fun env s' =>
  ∃ φ', Nx φ s φ' ∧ EnvOk ⟨scope, cs⟩ env φ' ∧ Wd G X φ' env.locals S' s' ∧ Kp φ s s' ∧ s.heap.get? env.locals = none ∧ env.code = code ∧ env.qual = qual ∧ (FirstLocal scope ab → 0 < s'.toks)
theorem new_env {X φ : List Addr} {H : List AO} {s : Shared} {scope : Scope} {closure : List (Str × Addr)} {cs₀ : List (Str × Nat)} {binds : List (Str × Value)} {ab : List (Str × AV)} {qual : Str} {func : Option Addr} {code : Value} {around : Option Env} {S' : St}
    (hR : Room n A) (hk : scope.kind = .function) (hb : (around.map (·.builtins)).getD builtinsNs = builtinsNs) (hh : Hd G X φ H s) (hc : CellsRel φ cs₀ closure) (hn : binds.map (·.1) = ab.map (·.1)) (hv : VRels s.heap X φ (ab.map (·.2)) (binds.map (·.2)))
    (h : storeAll ⟨scope, (layA scope.names cs₀ H).1⟩ ab ⟨(layA scope.names cs₀ H).2, []⟩ = some S') :
    wpAny (model G.prog G.w) A (newFunctionEnv scope mainGlobals closure binds qual func code around builtinsNs) (NewFr G X φ s scope (layA scope.names cs₀ H).1 S' ((around.map (·.code)).getD code) qual ab) noE s := by
  unfold newFunctionEnv
  refine wpAny_bind (wpAny_alloc ?_)
  have hnL : s.heap.get? s.heap.objs.size = none := fresh_none
  have ex : ∀ b o, s.heap.get? b = some o → (s.heap.push { cls := .type (if around.isSome then "dict" else "frame"), data := .dict #[] }).get? b = some o := fun b o e => Heap.get?_push_of_some _ e
  obtain ⟨tk₀, hd₀⟩ := hh.all (t := s.toks) ex
  have hLo : (s.heap.push { cls := .type (if around.isSome then "dict" else "frame"), data := .dict #[] }).get? s.heap.objs.size = some { cls := .type (if around.isSome then "dict" else "frame"), data := .dict #[] } := Heap.get?_push_size _ rfl
  have kp₀ : Kp φ s { s with heap := s.heap.push { cls := .type (if around.isSome then "dict" else "frame"), data := .dict #[] } } := Kp.ofAll (t := s.toks) ex
  refine wpAny_bind (wp_mono' (lay_cells _ (fun n k cells => ?_) scope.names closure cs₀ H φ _ hd₀ hc) fun cells s₁ ⟨φ₁, p₁, hc₁⟩ => ?_)
  · cases k <;> rfl
  · have Lφ : s.heap.objs.size ∉ φ := fun z => by obtain ⟨o, ho, _⟩ := hh.mem z; rw [hnL] at ho; cases ho
    have Lφ₁ : s.heap.objs.size ∉ φ₁ := fun z => by
      obtain ⟨ψ, e, hψ⟩ := p₁.nx
      rw [e] at z
      rcases List.mem_append.mp z with z | z
      · exact Lφ z
      · have := hψ _ z; rw [hLo] at this; cases this
    have hL := p₁.kp.keep _ _ hLo Lφ
    have LK : ∀ p ∈ G.K, p.1 ≠ s.heap.objs.size := fun p hp z => by have := hh.kin p hp; rw [z, hnL] at this; cases this
    have wd : Wd G X φ₁ s.heap.objs.size ⟨(layA scope.names cs₀ H).2, []⟩ s₁ := ⟨p₁.hd, Lφ₁, hh.notX, LK, ⟨_, ⟨_, #[], 0, hL, rfl, fun _ he => by simp at he, fun _ => rfl⟩, fun x => rfl⟩⟩
    have nx₁ : Nx φ s φ₁ := Nx.trans (.refl φ s) (M := φ) kp₀ p₁.nx
    have fin : ∀ env : Env, env.scope = scope → env.globals = mainGlobals → env.builtins = builtinsNs → env.cells = cells → env.locals = s.heap.objs.size → env.code = (around.map (·.code)).getD code → env.qual = qual →
        wpAny (model G.prog G.w) A (do
          for (name, v) in binds do storeName env name v
          return env) (NewFr G X φ s scope (layA scope.names cs₀ H).1 S' ((around.map (·.code)).getD code) qual ab) noE s₁ := by
      intro env h1 h2 h3 h4 h5 h6 h7
      have hE : EnvOk ⟨scope, (layA scope.names cs₀ H).1⟩ env φ₁ := ⟨h1, hk, h2, h3, fun x i e => h4 ▸ hc₁ x i e⟩
      refine wp_then (store_pos (env := env) _ (fun _ _ _ => rfl) hR binds ab _ S' φ₁ s₁ hE (h5.symm ▸ wd) hn (hv.mono (fun a vs ht hx => p₁.tupK hd₀ a vs (tk₀ a vs ht hx) hx) nx₁.pre) h) fun _ s₂ ⟨⟨φ₂, p₂⟩, hpos⟩ => ?_
      refine wpAny_pure ⟨φ₂, nx₁.trans (kp₀.trans p₁.kp fun _ _ _ z => z) p₂.nx, hE.pre p₂.nx.pre, p₂.wd, ?_, by rw [h5]; exact hnL, h6, h7, hpos⟩
      refine (kp₀.trans p₁.kp fun _ _ _ z => z).trans p₂.kp fun b o e hb => ?_
      rcases List.mem_append.mp hb with z | z
      · obtain ⟨ψ, rfl, hψ⟩ := nx₁
        rcases List.mem_append.mp z with z | z
        · exact z
        · rw [hψ b z] at e; cases e
      · simp at z; rw [z, h5, hnL] at e; cases e
    cases around with
    | none => exact fin { scope, locals := s.heap.objs.size, globals := mainGlobals, cells, qual, func, code, frame := some s.heap.objs.size, builtins := builtinsNs } rfl rfl rfl rfl rfl rfl rfl
    | some outer => exact fin { scope, locals := s.heap.objs.size, globals := mainGlobals, cells, qual, func, code := outer.code, frame := outer.frame, builtins := outer.builtins } rfl rfl hb rfl rfl rfl rfl
/-- how a def's parameters are bound -/
noncomputable def BindOk (G : Glob) (fd : FuncData) (bnd : List AO → List AV → List (Str × AV) → Option (List (Str × AV) × List AO)) : Prop :=
  ∀ (A : Around) (X φ : List Addr) (s : Shared) (H : List AO) (args : List AV) (kw : List (Str × AV)) (vs : List Value) (kvs : List (Str × Value)) (ab : List (Str × AV)) (H' : List AO), Hd G X φ H s → VRels s.heap X φ args vs →
    kvs.map (·.1) = kw.map (·.1) → VRels s.heap X φ (kw.map (·.2)) (kvs.map (·.2)) → bnd H args kw = some (ab, H') →
    wpAny (model G.prog G.w) A (bindArgs fd ⟨vs, kvs⟩) (fun binds s' => ∃ φ', HPt G X φ s H' φ' s' ∧ binds.map (·.1) = ab.map (·.1) ∧ VRels s'.heap X φ' (ab.map (·.2)) (binds.map (·.2))) noE s
noncomputable def outV : AFl → Option AV
  | .ret v => some v
  | .next => some (.c .none)
  | _ => none
noncomputable def fnF (scope : Scope) (bnd : List AO → List AV → List (Str × AV) → Option (List (Str × AV) × List AO)) (cs₀ : List (Str × Nat)) (Fb : List (Str × Nat) → St → Option (AFl × St)) : FnT := fun H args kw => thenO (bnd H args kw) fun ab H₁ => Option.bind (storeAll ⟨scope, (layA scope.names cs₀ H₁).1⟩ ab ⟨(layA scope.names cs₀ H₁).2, []⟩) fun S => thenO (Fb (layA scope.names cs₀ H₁).1 S) fun f S' => (outV f).map (·, S'.hp)
theorem outE {X φ φ₃ : List Addr} {s s₃ : Shared} {H : List AO} {fl : AFl} {f : Flow} {v : AV} (pq : HPt G X φ s H φ₃ s₃) (hf : FlRel s₃.heap X φ₃ fl f) (e : outV fl = some v) : HAfter G X φ s VRel v H (match (generalizing := false) f with | .ret w => w | _ => .none) s₃ := by
  cases fl with
  | ret v' =>
    cases Option.some.inj e
    cases f <;> first | exact hf.elim | exact ⟨φ₃, pq, hf⟩
  | next =>
    cases Option.some.inj e
    cases f <;> first | exact hf.elim | exact ⟨φ₃, pq, .c _⟩
  | _ => cases e
/-- a block that may count on a line of tokens, too -/
noncomputable def BdOkA (T : Nat) (G : Glob) (n : Nat) (fr : Fm) (b : List Stmt) (F : St → Option (AFl × St)) (flag : Bool) (code : Value) (qual : Str) : Prop :=
  ∀ (A : Around) (X φ : List Addr) (env : Env) (s : Shared) (S : St) (a : AFl) (S' : St), T ≤ s.toks → (flag = true → 0 < s.toks) → env.code = code → env.qual = qual → Room n A → EnvOk fr env φ → Wd G X φ env.locals S s → F S = some (a, S') →
    wpAny (model G.prog G.w) A (execs b env) (After G X φ env.locals s FlRel a S') noE s
theorem fn_codeA {mg mb : Names} (K : GOk G mg mb) {a : Addr} {o : Obj} {fd : FuncData} {body : List Stmt} {bnd : List AO → List AV → List (Str × AV) → Option (List (Str × AV) × List AO)} {cs₀ : List (Str × Nat)} {Fb : List (Str × Nat) → St → Option (AFl × St)}
    (hdata : o.data = .func fd) (hbody : fd.body = .stmts body) (hbind : BindOk G fd bnd) {flag : Bool} (hflag : flag = true → ∀ H args kw ab H', bnd H args kw = some (ab, H') → FirstLocal fd.scope ab)
    {T : Nat} (hb : ∀ cs, BdOkA T G n ⟨fd.scope, cs⟩ body (Fb cs) flag fd.code (fd.qualname ++ ".<locals>.")) (hco : fd.scope.isCoroutine = false) (hgen : fd.scope.isGenerator = false) (hk : fd.scope.kind = .function) (hgl : fd.globals = mainGlobals) (hbu : fd.builtins = builtinsNs)
    {X φ : List Addr} {s : Shared} {H : List AO} {args : List AV} {kw : List (Str × AV)} {vs : List Value} {kvs : List (Str × Value)} {v : AV} {H' : List AO} (ho : s.heap.get? a = some o) (hcd : s.heap.CodeRec fd.code fd.qualname) (hcl : CellsRel φ cs₀ fd.closure)
    (hT : T ≤ s.toks) (hR : Room (n + 1) A) (hh : Hd G X φ H s) (hv : VRels s.heap X φ args vs) (hkn : kvs.map (·.1) = kw.map (·.1)) (hkv : VRels s.heap X φ (kw.map (·.2)) (kvs.map (·.2))) (h : fnF fd.scope bnd cs₀ Fb H args kw = some (v, H')) :
    codeAny (model G.prog G.w) A (.call (.ref a) ⟨vs, kvs⟩) (fun r s' => match r with | .ok (.ret w) => HAfter G X φ s VRel v H' w s' | .ok _ => False | .error e => noE e s') s := by
  first | refine thenE h fun ab H₁ e1 h => ?_ | refine map2E h fun ab H₁ e1 h => ?_
  first | refine bindE h fun S e2 h => ?_ | refine mapE h fun S e2 h => ?_
  refine thenE h fun fl S' e3 h => mapE h fun v' ev h => ?_
  cases h
  refine codeAny_call_function (Nat.lt_of_le_of_lt (by omega) hR.depth) ho hdata hco hgen hbody hcd ?_
  have hR1 : Room n A.in1 := hR.in1
  refine wpAny_mono (wpAny_toks_of hT (hbind A.in1 X φ s H args kw vs kvs ab H₁ hh hv hkn hkv e1)) (fun binds s₁ hz => ?_) fun _ _ x => x.2.elim
  obtain ⟨hT₁, φ₁, p₁, hn, hab⟩ := hz
  rw [hgl, hbu]
  refine wpAny_mono (wpAny_toks_of hT₁ (new_env hR1 hk rfl p₁.hd (hcl.pre p₁.nx.pre) hn hab e2)) (fun env s₂ hz => ?_) fun _ _ x => x.2.elim
  obtain ⟨hT₂, φ₂, nx₂, hE, hW, kp₂, hL, hcode, hqual, hpos⟩ := hz
  refine ⟨(K.main s₂.heap hW.hd.kin).2.2, ?_⟩
  refine codeAny_func (wpAny_mono (hb _ (A.deeper env) X φ₂ env s₂ S fl S' hT₂ (fun q => hpos (hflag q _ _ _ _ _ e1)) hcode hqual (hR.deeper env) hE hW e3) (fun f s₃ ⟨φ₃, p₃, hf⟩ => ?_) fun _ _ x => x.elim)
  have pp : HPt G X φ₁ s₁ S'.hp φ₃ s₃ := by
    refine ⟨nx₂.trans kp₂ p₃.nx, p₃.wd.hd, kp₂.trans p₃.kp fun b o e hb => ?_⟩
    rcases List.mem_append.mp hb with z | z
    · obtain ⟨ψ, rfl, hψ⟩ := nx₂
      rcases List.mem_append.mp z with z | z
      · exact z
      · rw [hψ b z] at e; cases e
    · simp at z; rw [z, hL] at e; cases e
  have pq := p₁.trans pp
  exact outE pq hf ev
theorem fn_code {mg mb : Names} (K : GOk G mg mb) {a : Addr} {o : Obj} {fd : FuncData} {body : List Stmt} {bnd : List AO → List AV → List (Str × AV) → Option (List (Str × AV) × List AO)} {cs₀ : List (Str × Nat)} {Fb : List (Str × Nat) → St → Option (AFl × St)}
    (hdata : o.data = .func fd) (hbody : fd.body = .stmts body) (hbind : BindOk G fd bnd) {flag : Bool} (hflag : flag = true → ∀ H args kw ab H', bnd H args kw = some (ab, H') → FirstLocal fd.scope ab)
    (hb : ∀ cs, BdOkC G n ⟨fd.scope, cs⟩ body (Fb cs) flag fd.code (fd.qualname ++ ".<locals>.")) (hco : fd.scope.isCoroutine = false) (hgen : fd.scope.isGenerator = false) (hk : fd.scope.kind = .function) (hgl : fd.globals = mainGlobals) (hbu : fd.builtins = builtinsNs)
    {X φ : List Addr} {s : Shared} {H : List AO} {args : List AV} {kw : List (Str × AV)} {vs : List Value} {kvs : List (Str × Value)} {v : AV} {H' : List AO} (ho : s.heap.get? a = some o) (hcd : s.heap.CodeRec fd.code fd.qualname) (hcl : CellsRel φ cs₀ fd.closure)
    (hR : Room (n + 1) A) (hh : Hd G X φ H s) (hv : VRels s.heap X φ args vs) (hkn : kvs.map (·.1) = kw.map (·.1)) (hkv : VRels s.heap X φ (kw.map (·.2)) (kvs.map (·.2))) (h : fnF fd.scope bnd cs₀ Fb H args kw = some (v, H')) :
    codeAny (model G.prog G.w) A (.call (.ref a) ⟨vs, kvs⟩) (fun r s' => match r with | .ok (.ret w) => HAfter G X φ s VRel v H' w s' | .ok _ => False | .error e => noE e s') s :=
  fn_codeA K hdata hbody hbind hflag (T := 0) (fun cs A X φ env s S a S' _ => hb cs A X φ env s S a S') hco hgen hk hgl hbu ho hcd hcl (Nat.zero_le _) hR hh hv hkn hkv h
theorem fn_run {mg mb : Names} (K : GOk G mg mb) {a : Addr} {o : Obj} {fd : FuncData} {body : List Stmt} {bnd : List AO → List AV → List (Str × AV) → Option (List (Str × AV) × List AO)} {cs₀ : List (Str × Nat)} {Fb : List (Str × Nat) → St → Option (AFl × St)}
    (hdata : o.data = .func fd) (hbody : fd.body = .stmts body) (hbind : BindOk G fd bnd) {flag : Bool} (hflag : flag = true → ∀ H args kw ab H', bnd H args kw = some (ab, H') → FirstLocal fd.scope ab)
    (hb : ∀ cs, BdOk1 G n ⟨fd.scope, cs⟩ body (Fb cs) flag) (hco : fd.scope.isCoroutine = false) (hgen : fd.scope.isGenerator = false) (hk : fd.scope.kind = .function) (hgl : fd.globals = mainGlobals) (hbu : fd.builtins = builtinsNs)
    {X φ : List Addr} {s : Shared} {H : List AO} {args : List AV} {kw : List (Str × AV)} {vs : List Value} {kvs : List (Str × Value)} {v : AV} {H' : List AO} (ho : s.heap.get? a = some o) (hcd : s.heap.CodeRec fd.code fd.qualname) (hcl : CellsRel φ cs₀ fd.closure)
    (hR : Room (n + 1) A) (hh : Hd G X φ H s) (hv : VRels s.heap X φ args vs) (hkn : kvs.map (·.1) = kw.map (·.1)) (hkv : VRels s.heap X φ (kw.map (·.2)) (kvs.map (·.2))) (h : fnF fd.scope bnd cs₀ Fb H args kw = some (v, H')) :
    wpAny (model G.prog G.w) A (call (.ref a) vs kvs) (HAfter G X φ s VRel v H') noE s := wpAny_call (fn_code K hdata hbody hbind hflag (fun cs => (hb cs).c) hco hgen hk hgl hbu ho hcd hcl hR hh hv hkn hkv h)
theorem fok_def1 {mg mb : Names} (K : GOk G mg mb) {a : Addr} {o : Obj} {fd : FuncData} {body : List Stmt} {bnd : List AO → List AV → List (Str × AV) → Option (List (Str × AV) × List AO)} {Fb : List (Str × Nat) → St → Option (AFl × St)}
    (ho : (a, o) ∈ G.K) (hdata : o.data = .func fd) (hcd : ∀ h : Heap, (∀ p ∈ G.K, h.get? p.1 = some p.2) → h.CodeRec fd.code fd.qualname) (hbody : fd.body = .stmts body) (hbind : BindOk G fd bnd) {flag : Bool} (hflag : flag = true → ∀ H args kw ab H', bnd H args kw = some (ab, H') → FirstLocal fd.scope ab)
    (hb : ∀ cs, BdOk1 G n ⟨fd.scope, cs⟩ body (Fb cs) flag) (hco : fd.scope.isCoroutine = false) (hgen : fd.scope.isGenerator = false) (hk : fd.scope.kind = .function) (hgl : fd.globals = mainGlobals) (hbu : fd.builtins = builtinsNs) :
    FOk G (n + 1) (.ref a) (fnF fd.scope bnd [] Fb) := fun A X φ s H args kw vs kvs v H' hR hh hv hkn hkv h =>
  fn_run K hdata hbody hbind hflag hb hco hgen hk hgl hbu (hh.kin _ ho) (hcd _ hh.kin) (fun x i e => by cases e) hR hh hv hkn hkv h
theorem fok_def {mg mb : Names} (K : GOk G mg mb) {a : Addr} {o : Obj} {fd : FuncData} {body : List Stmt} {bnd : List AO → List AV → List (Str × AV) → Option (List (Str × AV) × List AO)} {Fb : List (Str × Nat) → St → Option (AFl × St)}
    (ho : (a, o) ∈ G.K) (hdata : o.data = .func fd) (hcd : ∀ h : Heap, (∀ p ∈ G.K, h.get? p.1 = some p.2) → h.CodeRec fd.code fd.qualname) (hbody : fd.body = .stmts body) (hbind : BindOk G fd bnd)
    (hb : ∀ cs, BdOk G n ⟨fd.scope, cs⟩ body (Fb cs)) (hco : fd.scope.isCoroutine = false) (hgen : fd.scope.isGenerator = false) (hk : fd.scope.kind = .function) (hgl : fd.globals = mainGlobals) (hbu : fd.builtins = builtinsNs) :
    FOk G (n + 1) (.ref a) (fnF fd.scope bnd [] Fb) :=
  fok_def1 K ho hdata hcd hbody hbind (flag := false) (fun q => by cases q) (fun cs A X φ env s S a S' _ => hb cs A X φ env s S a S') hco hgen hk hgl hbu
end
end Mine
end
section
open PySem PySem.W PyProof.Rows
set_option Elab.async false
set_option maxRecDepth 100000
set_option linter.all false
set_option autoImplicit false
namespace Mine
/-- a class of the text's own, upon object -/
structure Cls (G : Glob) (C : Addr) (mN : Names) : Prop where
  «at» : ∃ nm q N bs sn sub ab col dd k0 k1 k2 k3 k5 newId, ∀ h : Heap, (∀ p ∈ G.K, h.get? p.1 = some p.2) →
    h.get? C = some (excClassObj nm q C N bs [.type "object"] true sn sub ab col dd k0 k1 k2 k3 k5 newId) ∧ h.Ns N mN
  ga : mN "__getattribute__" = none
  gt : mN "__getattr__" = none
  sa : mN "__setattr__" = none
theorem Cls.use {G : Glob} {C : Addr} {mN : Names} {Q : Prop} (K : Cls G C mN) {h : Heap} (hk : ∀ p ∈ G.K, h.get? p.1 = some p.2)
    (k : ∀ nm q N bs sn sub ab col dd k0 k1 k2 k3 k5 newId, h.get? C = some (excClassObj nm q C N bs [.type "object"] true sn sub ab col dd k0 k1 k2 k3 k5 newId) → h.Ns N mN → Q) : Q := by
  obtain ⟨nm, q, N, bs, sn, sub, ab, col, dd, k0, k1, k2, k3, k5, newId, hat⟩ := K.at
  obtain ⟨hC, hn⟩ := hat h hk
  exact k nm q N bs sn sub ab col dd k0 k1 k2 k3 k5 newId hC hn
noncomputable def instAt (H : List AO) (a : AV) : Option (Addr × Nat × List (Str × AV)) := a.obj?.bind fun i => (H[i]?.bind AO.inst?).bind fun p => (H[p.2]?.bind AO.ns?).bind fun es => some (p.1, p.2, es)
section
variable {G : Glob} {n : Nat} {fr : Fm}
/-- what is known of an instance -/
structure InstIs (X φ : List Addr) (H : List AO) (s : Shared) (C : Addr) (d : Nat) (es : List (Str × AV)) (i : Nat) (x da : Addr) (mA : Names) : Prop where
  hx : φ[i]? = some x
  hda : φ[d]? = some da
  ne : da ≠ x
  ho : s.heap.get? x = some { cls := .ref C, dict := some da, data := .plain }
  hns : s.heap.Ns1 da mA
  nr : NsRel s.heap X φ es mA
  I : s.heap.Inst x C mA
  hd : H[d]? = some (.ns es)
  hi : H[i]? = some (.inst C d)
theorem Hd.instE {X φ : List Addr} {H : List AO} {s : Shared} {Q : Prop} (h : Hd G X φ H s) {a : AV} {r : Value} {p : Addr × Nat × List (Str × AV)} (e : instAt H a = some p) (hv : VRel s.heap X φ a r)
    (k : ∀ i x da mA, a = .obj i → r = .ref x → InstIs X φ H s p.1 p.2.1 p.2.2 i x da mA → Q) : Q :=
  bindE e fun i ea e => bindE e fun q hi e => bindE e fun es hd e => bindE hi fun o hi ho => bindE hd fun o' hd ho' => by
    cases Option.some.inj e
    rw [AO.inst_of ho] at hi
    rw [AO.ns_of ho'] at hd
    cases AV.obj_of ea
    obtain ⟨x, er, hx⟩ := hv.obj_inv
    obtain ⟨x', hx', da, hda, ho⟩ := h.obj i _ hi
    cases Option.some.inj (hx.symm.trans hx')
    obtain ⟨da', hda', mA, hns, nr⟩ := h.obj _ _ hd
    cases Option.some.inj (hda.symm.trans hda')
    have ne : da ≠ x := fun q => by
      subst q
      have := (List.getElem?_inj (List.getElem?_eq_some_iff.mp hx).1 h.nd).mp (hx.trans hda.symm)
      rw [← this, hi] at hd
      cases hd
    exact k i x da mA rfl er ⟨hx, hda, ne, ho, hns, nr, ⟨_, ho, rfl, fun c q => (by cases q), Or.inr ⟨da, rfl, ne, hns⟩⟩, hd, hi⟩
theorem NsRel.none {h : Heap} {X φ : List Addr} {es m} (x : NsRel h X φ es m) {y : Str} (e : es.lookup y = none) : m y = none := by have := x y; rw [e] at this; exact this
theorem NsRel.some {h : Heap} {X φ : List Addr} {es m} (x : NsRel h X φ es m) {y : Str} {v : AV} (e : es.lookup y = some v) : ∃ r, m y = some r ∧ VRel h X φ v r := by have := x y; rw [e] at this; exact this

/-- a method's look-up on a value -/
noncomputable def MetOk (G : Glob) (name : Str) (f : Value) (P : List AO → AV → Bool) : Prop :=
  ∀ (A : Around) (X φ : List Addr) (s : Shared) (H : List AO) (a : AV) (ra : Value) (pl : Sem Bool) (Q : Value × List Value → Shared → Prop), Hd G X φ H s → VRel s.heap X φ a ra → P H a = true → Q (f, [ra]) s → wpAny (model G.prog G.w) A (getMethod ra name pl) Q noE s
noncomputable def isInst (C : Addr) (name : Str) (H : List AO) (a : AV) : Bool := (instAt H a).any fun p => p.1 == C && (p.2.2.lookup name).isNone
theorem met_own {C : Addr} {mN : Names} (K : Cls G C mN) {name : Str} {f : Addr} {of : Obj} (hf : mN name = some (.ref f)) (ho : (f, of) ∈ G.K) (hc : of.cls = .type "function") {y : Option Value} (hB : typeLookup (.type "object") name = pure y) :
    MetOk G name (.ref f) (isInst C name) := by
  intro A X φ s H a ra pl Q hh hv hp hq
  refine anyE hp fun p e hz => hh.instE e hv fun i x da mA ea er I => K.use hh.kin fun nm q N bs sn sub ab col dd k0 k1 k2 k3 k5 newId hC hn => ?_
  subst ea er
  obtain ⟨hz, he⟩ := Bool.and_eq_true_iff.mp hz
  have hz := eq_of_beq hz
  subst hz
  obtain ⟨heap, gens, drawn, toks, os⟩ := s
  exact method_of hC hn K.ga K.gt hf (hh.kin _ ho) hc hB I.I (I.nr.none (Option.isNone_iff_eq_none.mp he)) hq
noncomputable def isListA (H : List AO) (a : AV) : Bool := (a.obj?.bind (listAt H)).isSome
noncomputable def isDictA (H : List AO) (a : AV) : Bool := (a.obj?.bind (dictAt H)).isSome
noncomputable def isStrA (H : List AO) (a : AV) : Bool := a.str?.isSome
theorem met_list {name : Str} {id : String} (slot : Slot "list" name id) (hty : typeOf (.builtin id) = pure (.type "method_descriptor")) : MetOk G name (.builtin id) isListA := by
  intro A X φ s H a ra pl Q hh hv hp hq
  refine isSomeE hp fun l e => bindE e fun i ea e => ?_
  rw [AV.obj_of ea] at hv
  obtain ⟨x, rfl, hx⟩ := hv.obj_inv
  obtain ⟨x', hx', vs, n, ho, _⟩ := hh.obj i _ (listAt_of e)
  cases Option.some.inj (hx.symm.trans hx')
  exact getMethod_builtin (T := "list") ⟨_, ho, rfl⟩ F.plainAttrs_list slot hty (fun a' e' => by cases e'; exact ⟨_, ho, rfl⟩) hq
theorem met_dict {name : Str} {id : String} (slot : Slot "dict" name id) (hty : typeOf (.builtin id) = pure (.type "method_descriptor")) : MetOk G name (.builtin id) isDictA := by
  intro A X φ s H a ra pl Q hh hv hp hq
  refine isSomeE hp fun l e => bindE e fun i ea e => ?_
  rw [AV.obj_of ea] at hv
  obtain ⟨x, rfl, hx⟩ := hv.obj_inv
  obtain ⟨x', hx', o, es', ep, kvs, ho, hc, _⟩ := hh.obj i _ (dictAt_of e)
  cases Option.some.inj (hx.symm.trans hx')
  exact getMethod_builtin (T := "dict") ⟨_, ho, hc.1⟩ F.plainAttrs_dict slot hty (fun a' e' => by cases e'; exact ⟨_, ho, hc.2.1⟩) hq
theorem met_str {name : Str} {id : String} (slot : Slot "str" name id) (hty : typeOf (.builtin id) = pure (.type "method_descriptor")) : MetOk G name (.builtin id) isStrA := by
  intro A X φ s H a ra pl Q hh hv hp hq
  refine isSomeE hp fun x e => ?_
  rw [AV.str_of e] at hv
  obtain ⟨t, rfl⟩ := hv.str_inv
  exact getMethod_builtin (T := "str") (show typeOf _ = _ from rfl) F.plainAttrs_str slot hty (fun a' e' => by cases e') hq
/-- a method of a constant object of the text's -/
theorem met_const {name : Str} {id T : String} {b : Addr} {ob : Obj} (ho : (b, ob) ∈ G.K) (hc : ob.cls = .type T) (hd : ob.dict = none) (pa : PlainAttrs T) (slot : Slot T name id) (hty : typeOf (.builtin id) = pure (.type "method_descriptor")) :
    MetOk G name (.builtin id) fun _ a => a.ref?.any (· == b) := by
  intro A X φ s H a ra pl Q hh hv hp hq
  refine anyE hp fun b' e hp => ?_
  cases eq_of_beq hp
  rw [AV.ref_of e] at hv
  cases hv.c_inv
  have hob := hh.kin _ ho
  exact getMethod_builtin (T := T) ⟨_, hob, hc⟩ pa slot hty (fun a' e' => by cases e'; exact ⟨_, hob, hd⟩) hq

noncomputable def methF (Fo : St → Option (AV × St)) (P : List AO → AV → Bool) (F : FnT) (Fa Fk : St → Option (List AV × St)) (names : List Str) (S : St) : Option (AV × St) := thenO (Fo S) fun a S₁ => if P S₁.hp a then argsF Fa Fk names (callF F [a]) S₁ else none
theorem eok_meth {o : Expr} {name : Str} {apos pos : Pos} {es : List Expr} {kws : List Keyword} {f : Value} {P : List AO → AV → Bool} {F : FnT} {Fo : St → Option (AV × St)} {Fa Fk : St → Option (List AV × St)} {names : List Str}
    (h : EOk G n fr o Fo) (hm : MetOk G name f P) (hf : FOk G n f F) (hk : KeepOk G f) (ha : EsOk G n fr es Fa) (hkw : KwsOk G n fr kws names Fk) (hst : ∀ env, (starEach es env).any (·.1) = false)
    (hbase : ∀ env, attributeBase o name env (eval o env) = eval o env) (hform : ∀ env, methodCallForm (es.length + kws.length) (backTo pos (starEach es env)) (backToKw pos (keywordEach kws env)) = true) (hline : (apos.endLine == pos.line) = true) :
    EOk G n fr (.Call (.Attribute o name apos) es kws pos) (methF Fo P F Fa Fk names) := by
  intro A X φ env s S v S' hR hE hW e
  first | refine thenE e fun a S₁ e1 e => ?_ | refine map2E e fun a S₁ e1 e => ?_
  refine iteE e fun hp e => ?_
  show wpAny _ A (eval (.Call (.Attribute o name apos) es kws pos) env) _ _ _
  rw [arm_eval_Call, hbase]
  refine wp_then (h A X φ env s S a S₁ hR hE hW e1) fun ov s₁ ⟨φ₁, p₁, hr⟩ => ?_
  refine wpAny_bind (wpAny_standAt ?_)
  unfold methodCall
  rw [hform]
  have hpos : methodCallPos true o env apos pos = pure pos := by unfold methodCallPos; simp [hline]
  refine wpAny_bind (wpAny_holding (hm A X φ₁ s₁ S₁.hp a ov _ _ p₁.wd.hd hr hp ?_))
  refine wpAny_bind (wpAny_of_eq hpos ?_)
  exact wp_mono' (call_run hf hk ha hkw hst hR (hE.pre p₁.nx.pre) p₁.wd (.cons hr .nil) e) fun _ _ z => .of p₁ z

/-! attributes of an instance -/
noncomputable def Plainly (v : AV) : Bool := match v with
  | .c (.builtin _) => false
  | _ => true
theorem handed {h : Heap} {X φ : List Addr} {v : AV} {r : Value} (hv : VRel h X φ v r) (hp : Plainly v = true) : handedOut r = pure r := by
  cases hv with
  | c => cases r <;> first | rfl | cases hp
  | _ => rfl
noncomputable def attrF (C : Addr) (attr : Str) (H : List AO) (a : AV) : Option (AV × List AO) := (instAt H a).bind fun p => if p.1 = C then (p.2.2.lookup attr).bind fun v => if Plainly v = true then some (v, H) else none else none
theorem p_getAttr {C : Addr} {mN : Names} (K : Cls G C mN) {attr : Str} (hna : mN attr = none) (hB : typeLookup (.type "object") attr = pure none) {ex : Bool} : P1Ok G n (fun o => getAttr o attr ex) VRel (attrF C attr) := by
  intro A X φ s H a ra v H' hR hh hv h
  refine bindE h fun p e h => iteE h fun hC h => bindE h fun v' ev h => iteE h fun hp h => someE h fun e1 e2 => hh.instE e hv fun i x da mA ea er I => K.use hh.kin fun nm q N bs sn sub ab col dd k0 k1 k2 k3 k5 newId hC' hn => ?_
  subst e1 e2 ea er hC
  obtain ⟨r, hr, hvr⟩ := I.nr.some ev
  have ha := HAfter.same (t := s.toks + 1) hh hvr
  have hI := I.I
  obtain ⟨heap, gens, drawn, toks, os⟩ := s
  exact load_attr hC' hn K.ga hna hB hI hr (handed hvr hp) ha
noncomputable def oneF (Fo : St → Option (AV × St)) (f : List AO → AV → Option (AV × List AO)) (S : St) : Option (AV × St) := thenO (Fo S) fun a S₁ => thenO (f S₁.hp a) fun v H => some (v, ⟨H, S₁.loc⟩)
theorem eok_attr {x : Str} {xp pos : Pos} {attr : Str} {Fo : St → Option (AV × St)} {f : List AO → AV → Option (AV × List AO)} (h : EOk G n fr (.Name x xp) Fo) (hf : P1Ok G n (fun o => getAttr o attr true) VRel f) : EOk G n fr (.Attribute (.Name x xp) attr pos) (oneF Fo f) := by
  intro A X φ env s S v S' hR hE hW e
  first | refine thenE e fun a S₁ e1 e => ?_ | refine map2E e fun a S₁ e1 e => ?_
  first | refine thenE e fun v' H e2 e => ?_ | refine map2E e fun v' H e2 e => ?_
  cases e
  show wpAny _ A (do
    let o ← attributeBase (.Name x xp) attr env (eval (.Name x xp) env)
    standAt pos.atName
    let r ← holding [o] (getAttr o attr true)
    letTemporaryGo (.Name x xp) o r
    pure r) _ _ _
  have hb : attributeBase (.Name x xp) attr env (eval (.Name x xp) env) = eval (.Name x xp) env := rfl
  rw [hb]
  refine wp_then (h A X φ env s S a S₁ hR hE hW e1) fun o s₁ ⟨φ₁, p₁, hr⟩ => ?_
  refine wpAny_bind (wpAny_standAt (wpAny_bind (wpAny_holding (wp_mono' (hf A X φ₁ s₁ S₁.hp a o v H hR p₁.wd.hd hr e2) fun r s₂ h₂ => ?_))))
  refine wpAny_bind ?_
  show wpAny _ A (pure ()) _ _ _
  exact wpAny_pure (wpAny_pure (.of p₁ (h₂.lift p₁.wd)))
/-- an attribute stored -/
noncomputable def setAttrF (C : Addr) (attr : Str) (H : List AO) (a v : AV) : Option (List AO) := (instAt H a).bind fun p => if p.1 = C ∧ p.2.2.length ≤ 4096 then some (H.set p.2.1 (.ns (put p.2.2 attr v))) else none
theorem lookup_mem {es : List (Str × AV)} {x : Str} (h : es.lookup x ≠ none) : x ∈ es.map (·.1) := by
  induction es with
  | nil => exact absurd rfl h
  | cons p r ih =>
    obtain ⟨y, w⟩ := p
    by_cases q : x = y
    · subst q; exact List.mem_cons_self
    · have : (x == y) = false := by simp [q]
      simp only [List.lookup, this] at h
      exact List.mem_cons_of_mem _ (ih h)
theorem set_key {C : Addr} {X φ : List Addr} {s : Shared} {H : List AO} {d : Nat} {es : List (Str × AV)} {i : Nat} {x da : Addr} {mA : Names} {v : AV} {rv : Value} {attr : Str} (hh : Hd G X φ H s) (I : InstIs X φ H s C d es i x da mA) (hv : VRel s.heap X φ v rv) (h' : Heap) (tk' : Nat) (I' : h'.Inst x C (fun y => if y = attr then some rv else mA y))
    (hk : ∀ b o, b ≠ x → (∀ o₀ dx, s.heap.get? x = some o₀ → o₀.dict = some dx → b ≠ dx) → s.heap.get? b = some o → h'.get? b = some o)
    (hs : ∀ o₀, s.heap.get? x = some o₀ → ∃ o₁, h'.get? x = some o₁ ∧ o₁.cls = o₀.cls ∧ o₁.data = o₀.data ∧ o₁.slots = o₀.slots ∧ ∀ dx, o₀.dict = some dx → o₁.dict = some dx) : ∃ φ', HPt G X φ s (H.set d (.ns (put es attr v))) φ' { s with heap := h', toks := tk' } := by
  obtain ⟨⟨c, dct, dt, sl⟩, ho₁, h1, h2, h3, h4⟩ := hs _ I.ho
  cases h1; cases h2; cases h3; cases h4 da rfl
  have hext : Heap.ExtBut da s.heap h' := fun b o hb ho => by
    by_cases z : b = x
    · subst z; cases Option.some.inj (I.ho.symm.trans ho); exact ho₁
    · exact hk b o z (fun o₀ dx e1 e2 => by cases Option.some.inj (I.ho.symm.trans e1); cases e2; exact hb) ho
  have hns' : h'.Ns1 da (fun y => if y = attr then some rv else mA y) := by
    obtain ⟨o₂, ho₂, _, _, hd₂⟩ := I'
    cases Option.some.inj (ho₁.symm.trans ho₂)
    rcases hd₂ with ⟨z, _⟩ | ⟨d', hd', _, z⟩
    · cases z
    · cases hd'; exact z
  obtain ⟨φ', p, _⟩ := HAfter.turn (rel := fun _ _ _ (_ : Unit) (_ : Unit) => True) (a := ()) (r := ()) (t := tk') (ao := .ns (put es attr v)) hh I.hda hext (fun tk => ⟨_, hns', (I.nr.mono tk (.refl φ)).put (hv.mono tk (.refl φ))⟩) (fun _ => trivial)
  exact ⟨φ', p⟩
theorem p_setAttr {C : Addr} {mN : Names} (K : Cls G C mN) (hCK : ∃ o, (C, o) ∈ G.K) {attr : Str} (hna : mN attr = none) (hB : typeLookup (.type "object") attr = pure none) {A : Around} {X φ : List Addr} {s : Shared} {H : List AO} {a v : AV} {ra rv : Value} {H' : List AO}
    (hh : Hd G X φ H s) (ha : VRel s.heap X φ a ra) (hv : VRel s.heap X φ v rv) (h : setAttrF C attr H a v = some H') : wpAny (model G.prog G.w) A (setAttr ra attr rv) (fun _ s' => ∃ φ', HPt G X φ s H' φ' s') noE s := by
  refine bindE h fun p e hy => iteE hy fun hC hz => hh.instE e ha fun i x da mA ea er I => K.use hh.kin fun nm q N bs sn sub ab col dd k0 k1 k2 k3 k5 newId hC' hn => ?_
  obtain ⟨hC, hl⟩ := hC
  subst ea er hC
  cases hz
  have hxC : x ≠ p.1 := fun z => by
    obtain ⟨o, ho⟩ := hCK
    exact hh.kφ _ ho (by rw [← z]; exact List.mem_of_getElem? I.hx)
  have hw : Within mA (p.2.2.map (·.1)) := fun y hy => lookup_mem fun z => hy (I.nr.none z)
  have key := set_key (v := v) (rv := rv) (attr := attr) hh I hv
  have hI := I.I
  obtain ⟨heap, gens, drawn, toks, os⟩ := s
  exact store_attr F.store_object hC' hn K.sa hna hB hxC hI (fun h' tk' I' hk hs => key h' tk' I' hk hs) hw (by rw [List.length_map]; exact le_line hl)
noncomputable def attrStore (Fo : St → Option (AV × St)) (C : Addr) (attr : Str) (v : AV) (S : St) : Option St := thenO (Fo S) fun a S₁ => (setAttrF C attr S₁.hp a v).map (⟨·, S₁.loc⟩)
theorem aok_attr {C : Addr} {mN : Names} (K : Cls G C mN) (hCK : ∃ o, (C, o) ∈ G.K) {o : Expr} {attr : Str} {pos : Pos} (hna : mN attr = none) (hB : typeLookup (.type "object") attr = pure none) {Fo : St → Option (AV × St)} (h : EOk G n fr o Fo) :
    AsOk G n fr (fun env v => assign (.Attribute o attr pos) env v) (attrStore Fo C attr) := by
  intro A X φ env s S v r S' hR hE hW hv e
  first | refine thenE e fun a S₁ e1 e => ?_ | refine map2E e fun a S₁ e1 e => ?_
  first | refine bindE e fun H e2 e => ?_ | refine mapE e fun H e2 e => ?_
  cases e
  show wpAny _ A (do
    let ov ← holding [r] (eval o env)
    standAt pos.atName
    holding [r, ov] (setAttr ov attr r)
    release [r, ov] []) _ _ _
  refine wpAny_bind (wpAny_holding (wp_mono' (h A X φ env s S a S₁ hR hE hW e1) fun ov s₁ ⟨φ₁, p₁, hr⟩ => ?_))
  refine wpAny_bind (wpAny_standAt (wpAny_bind (wpAny_holding (wp_mono' (p_setAttr K hCK hna hB p₁.wd.hd hr (p₁.val hW hv) e2) fun _ s₂ ⟨φ₂, p₂⟩ => ?_))))
  exact wpAny_release ⟨φ₂, p₁.trans (p₂.lift p₁.wd)⟩
end
end Mine
end
section
open PySem PySem.W PyProof.Rows
set_option Elab.async false
set_option maxRecDepth 100000
set_option linter.all false
set_option autoImplicit false
namespace Mine
inductive Src where
  | seq (l : List AV)
  | list (i k : Nat)
noncomputable def snext (H : List AO) : Src → Option (Option (AV × Src))
  | .seq [] => some none
  | .seq (x :: r) => some (some (x, .seq r))
  | .list i k => (listAt H i).bind fun l => some ((l[k]?).map fun v => (v, .list i (k + 1)))
noncomputable def chrA (c : Nat) : AV := .str ⟨#[c]⟩
inductive Leaf (h : Heap) (X φ : List Addr) : Src → Addr → Prop
  | str {x : Str} {t : Tok} {i : Nat} {it : Addr} : h.IsStrIter it "str_ascii_iterator" x t i → Leaf h X φ (.seq ((x.cps.toList.drop i).map chrA)) it
  | tup {t : Addr} {vs : List Value} {i : Nat} {it : Addr} {l : List AV} : h.IsTupleIter it t i → t ∉ X → h.IsTuple t vs.toArray → VRels h X φ l vs → Leaf h X φ (.seq (l.drop i)) it
  | range {it : Addr} {x : Int} {n : Nat} : IsRangeIter h it x n 1 → Leaf h X φ (.seq ((List.range n).map fun (j : Nat) => .int (x + j))) it
  | list {i k : Nat} {it a : Addr} : φ[i]? = some a → h.IsListIter it a k → Leaf h X φ (.list i k) it
theorem Leaf.mono {h h' : Heap} {X φ φ' : List Addr} {src : Src} {it : Addr} (k : TupK X h h') (p : Pre φ φ') (e : ∀ o, h.get? it = some o → h'.get? it = some o) (x : Leaf h X φ src it) : Leaf h' X φ' src it := by
  cases x with
  | str hs => obtain ⟨o, ho, r⟩ := hs; exact .str ⟨o, e _ ho, r⟩
  | tup hi hx ht hv => obtain ⟨o, ho, r⟩ := hi; exact .tup ⟨o, e _ ho, r⟩ hx (k _ _ ht hx) (hv.mono k p)
  | range hr => exact .range (e _ hr)
  | list ha hi => obtain ⟨o, ho, r⟩ := hi; exact .list (p.get ha) ⟨o, e _ ho, r⟩
theorem Leaf.obj {h : Heap} {X φ : List Addr} {src : Src} {it : Addr} (x : Leaf h X φ src it) : ∃ o n vs, h.get? it = some o ∧ o.cls = .type n ∧ o.data = .fields vs ∧
    (["enumerate", "zip", "dict_itemiterator", "dict_reverseitemiterator", "odict_iterator", "itertools.zip_longest", "itertools.pairwise"] : List String).contains n = false := by
  cases x with
  | str hs => obtain ⟨o, ho, hc, hd⟩ := hs; exact ⟨o, _, _, ho, hc, hd, by decide⟩
  | tup hi hx ht hv => obtain ⟨o, ho, hc, hd⟩ := hi; exact ⟨o, _, _, ho, hc, hd, by decide⟩
  | range hr => exact ⟨_, _, _, hr, rfl, rfl, by decide⟩
  | list ha hi => obtain ⟨o, ho, hc, hd⟩ := hi; exact ⟨o, _, _, ho, hc, hd, by decide⟩
theorem VRels.nth {h : Heap} {X φ : List Addr} {l : List AV} {vs : List Value} (x : VRels h X φ l vs) (i : Nat) : (l[i]? = none ∧ vs[i]? = none) ∨ ∃ v r, l[i]? = some v ∧ vs[i]? = some r ∧ VRel h X φ v r := by
  cases e : l[i]? with
  | none =>
    left
    refine ⟨rfl, ?_⟩
    rw [List.getElem?_eq_none_iff] at e ⊢
    rw [x.length]; exact e
  | some v =>
    right
    obtain ⟨r, hr, hv⟩ := x.get e
    exact ⟨v, r, rfl, hr, hv⟩
theorem drop_some {x : Str} {i c : Nat} (q : x.cps[i]? = some c) : x.cps.toList.drop i = c :: x.cps.toList.drop (i + 1) := by
  rw [← Array.getElem?_toList] at q
  obtain ⟨hl, hc⟩ := List.getElem?_eq_some_iff.mp q
  rw [← hc, List.drop_eq_getElem_cons hl]
theorem drop_none {x : Str} {i : Nat} (q : x.cps[i]? = none) : x.cps.toList.drop i = [] := by
  rw [List.drop_eq_nil_iff]
  rw [Array.getElem?_eq_none_iff] at q
  simpa using q
section
variable {G : Glob} {n : Nat} {A : Around} {E : Value → Shared → Prop}
theorem snextE {X φ : List Addr} {H : List AO} {s : Shared} {i k : Nat} {a : Addr} {o : Option (AV × Src)} {Q : Prop} (hh : Hd G X φ H s) (ha : φ[i]? = some a) (e : snext H (.list i k) = some o)
    (kk : ∀ l vs n, s.heap.get? a = some { cls := .type "list", data := .seq vs.toArray n } → VRels s.heap X φ l vs → (l[k]?).map (fun v => (v, Src.list i (k + 1))) = o → Q) : Q :=
  bindE e fun l el e => by
    obtain ⟨a', ha', vs, n, ho, hv⟩ := hh.obj i _ (listAt_of el)
    cases Option.some.inj (ha.symm.trans ha')
    exact kk l vs n ho hv (Option.some.inj e)
/-- what an iterator's step leaves: its own place alone is turned -/
noncomputable def LeafItem (s : Shared) (X φ : List Addr) (it : Addr) (v : AV) (src : Src) (r : Value) (s' : Shared) : Prop :=
  ∃ h' t', s' = { s with heap := h', toks := t' } ∧ Heap.ExtBut it s.heap h' ∧ VRel h' X φ v r ∧ Leaf h' X φ src it
theorem tupK_but {X φ : List Addr} {H : List AO} {s : Shared} {h' : Heap} {it : Addr} (hh : Hd G X φ H s) (hx : it ∈ X) (hs : Heap.ExtBut it s.heap h') : TupK X s.heap h' := fun a vs ⟨o, ho, r⟩ ha => ⟨o, hs a o (fun q => ha (q ▸ hx)) ho, r⟩
theorem leaf_item {X φ : List Addr} {H : List AO} {s : Shared} {src src' : Src} {it : Addr} {v : AV} (hh : Hd G X φ H s) (hx : it ∈ X) (hL : Leaf s.heap X φ src it) (e : snext H src = some (some (v, src'))) :
    wpAny (model G.prog G.w) A (pyNext (.ref it)) (fun r s' => ∃ rv, r = some rv ∧ LeafItem s X φ it v src' rv s') noE s := by
  cases hL with
  | str hs =>
    rename_i x t i
    cases q : x.cps[i]? with
    | none =>
      rw [drop_none q] at e; cases e
    | some c =>
      rw [drop_some q] at e; cases e
      exact wpAny_pyNext_ascii_item hs q fun h' hs' hsb => ⟨_, rfl, h', _, rfl, hsb.extBut, .str _ _, .str hs'⟩
  | tup hi ht htup hv =>
    rename_i t vs i l
    rcases hv.nth i with ⟨h1, h2⟩ | ⟨w, r, h1, h2, h3⟩
    · rw [List.getElem?_eq_none_iff, ← List.drop_eq_nil_iff] at h1
      rw [h1] at e; cases e
    · obtain ⟨hl, hw⟩ := List.getElem?_eq_some_iff.mp h1
      rw [List.drop_eq_getElem_cons hl, hw] at e; cases e
      refine wpAny_pyNext_tuple_item hi htup (x := r) (by simpa using h2) fun h' hi' hsb => ?_
      have tk := tupK_but hh hx hsb.extBut
      exact ⟨_, rfl, h', s.toks, rfl, hsb.extBut, h3.mono tk (.refl φ), .tup hi' ht (tk _ _ htup ht) (hv.mono tk (.refl φ))⟩
  | range hr =>
    rename_i x m
    cases m with
    | zero => cases e
    | succ m =>
      rw [List.range_succ_eq_map, List.map_cons, List.map_map] at e
      cases e
      refine wpAny_pyNext_range_item hr (by omega) fun h' hr' hsb => ⟨_, rfl, h', _, rfl, hsb.extBut, ?_, ?_⟩
      · rw [show (x + ((0 : Nat) : Int)) = x by omega]; exact .int _ _
      · have : (List.map ((fun (j : Nat) => AV.int (x + j)) ∘ Nat.succ) (List.range m)) = (List.range m).map fun (j : Nat) => AV.int (x + 1 + j) := by
          apply List.map_congr_left
          intro j _
          show AV.int (x + ((j + 1 : Nat) : Int)) = _
          congr 1; omega
        rw [this]
        have hm : (((m + 1 : Nat) : Int) - 1) = (m : Int) := by omega
        rw [hm] at hr'
        exact .range hr'
  | list ha hi =>
    rename_i i k a
    refine snextE hh ha e fun l vs n ho hv e => mapE e fun w ew e => ?_
    cases e
    obtain ⟨r, hr, hvr⟩ := hv.get ew
    refine wpAny_pyNext_list_item hi ⟨_, ho, rfl, n, rfl⟩ (x := r) (by simpa using hr) fun h' hi' hsb => ?_
    have tk := tupK_but hh hx hsb.extBut
    exact ⟨_, rfl, h', s.toks, rfl, hsb.extBut, hvr.mono tk (.refl φ), .list ha hi'⟩
noncomputable def LeafEnd (s : Shared) (it : Addr) (s' : Shared) : Prop := ∃ h' t', s' = { s with heap := h', toks := t' } ∧ Heap.ExtBut it s.heap h'
theorem leaf_end {X φ : List Addr} {H : List AO} {s : Shared} {src : Src} {it : Addr} (hA : A.handled = none) (hh : Hd G X φ H s) (hL : Leaf s.heap X φ src it) (e : snext H src = some none) :
    wpAny (model G.prog G.w) A (pyNext (.ref it)) (fun r s' => r = none ∧ LeafEnd s it s') noE s := by
  cases hL with
  | str hs =>
    rename_i x t i
    cases q : x.cps[i]? with
    | none => exact wpAny_pyNext_ascii_end hA hs q fun h' hsb => ⟨rfl, h', s.toks, rfl, hsb⟩
    | some c =>
      rw [drop_some q] at e; cases e
  | tup hi ht htup hv =>
    rename_i t vs i l
    rcases hv.nth i with ⟨h1, h2⟩ | ⟨w, r, h1, h2, h3⟩
    · exact wpAny_pyNext_tuple_end hA hi htup (by simpa using h2) fun h' hsb => ⟨rfl, h', s.toks, rfl, hsb⟩
    · obtain ⟨hl, hw⟩ := List.getElem?_eq_some_iff.mp h1
      rw [List.drop_eq_getElem_cons hl, hw] at e; cases e
  | range hr =>
    rename_i x m
    cases m with
    | zero => exact wpAny_pyNext_range_end hA hr (by omega) fun h' hsb => ⟨rfl, h', s.toks, rfl, hsb⟩
    | succ m => rw [List.range_succ_eq_map, List.map_cons, List.map_map] at e; cases e
  | list ha hi =>
    rename_i i k a
    refine snextE hh ha e fun l vs n ho hv e => ?_
    rcases hv.nth k with ⟨h1, h2⟩ | ⟨w, r, h1, h2, h3⟩
    · exact wpAny_pyNext_list_end hA hi ⟨_, ho, rfl, n, rfl⟩ (by simpa using h2) fun h' hsb => ⟨rfl, h', s.toks, rfl, hsb⟩
    · rw [h1] at e; cases e
/-- the same below an enumerate or a zip: signs and lists alone -/
noncomputable def Inner : Src → Addr → Heap → Prop := fun src it h => (∃ x t i, h.IsStrIter it "str_ascii_iterator" x t i) ∨ (∃ a k, h.IsListIter it a k)
theorem inner_no {h : Heap} {src : Src} {it : Addr} {o : Obj} (hI : Inner src it h) (ho : h.get? it = some o) (hc : (o.cls == .type "str_ascii_iterator") = false) (hc' : (o.cls == .type "list_iterator") = false) : False := by
  rcases hI with ⟨x, t, i, o', ho', hc₁, _⟩ | ⟨a, k, o', ho', hc₁, _⟩
  · cases Option.some.inj (ho.symm.trans ho'); rw [hc₁] at hc; exact absurd hc (by decide)
  · cases Option.some.inj (ho.symm.trans ho'); rw [hc₁] at hc'; exact absurd hc' (by decide)
theorem leaf_draw {X φ : List Addr} {H : List AO} {s : Shared} {src src' : Src} {it : Addr} {v : AV} {Q : Value → Shared → Prop} (hh : Hd G X φ H s) (hx : it ∈ X) (hL : Leaf s.heap X φ src it) (hI : Inner src it s.heap) (e : snext H src = some (some (v, src')))
    (hQ : ∀ r h' t', Heap.SameBut it s.heap h' → VRel h' X φ v r → Leaf h' X φ src' it → Inner src' it h' → Q r { s with heap := h', toks := t' }) : wpAny (model G.prog G.w) A (Builtin.SmallTypes.nextOf (.ref it)) Q E s := by
  cases hL with
  | str hs =>
    rename_i x t i
    cases q : x.cps[i]? with
    | none =>
      rw [drop_none q] at e; cases e
    | some c =>
      rw [drop_some q] at e; cases e
      exact wpAny_nextOf_ascii_item hs q fun h' hs' hsb => hQ _ h' _ hsb (.str _ _) (.str hs') (.inl ⟨_, _, _, hs'⟩)
  | tup hi ht htup hv =>
    obtain ⟨o, ho, hc, hd⟩ := hi
    exact (inner_no hI ho (by rw [hc]; decide) (by rw [hc]; decide)).elim
  | range hr =>
    exact (inner_no hI hr (show (Value.type "range_iterator" == _) = false by decide) (show (Value.type "range_iterator" == _) = false by decide)).elim
  | list ha hi =>
    rename_i i k a
    refine snextE hh ha e fun l vs n ho hv e => mapE e fun w ew e => ?_
    cases e
    obtain ⟨r, hr, hvr⟩ := hv.get ew
    refine wpAny_nextOf_list_item hi ⟨_, ho, rfl, n, rfl⟩ (x := r) (by simpa using hr) fun h' hi' hsb => ?_
    have tk := tupK_but hh hx hsb.extBut
    exact hQ r h' s.toks hsb (hvr.mono tk (.refl φ)) (.list ha hi') (.inr ⟨_, _, hi'⟩)
theorem leaf_over {X φ : List Addr} {H : List AO} {s : Shared} {src : Src} {it : Addr} {Q : Value → Shared → Prop} (hA : A.handled = none) (hh : Hd G X φ H s) (hL : Leaf s.heap X φ src it) (hI : Inner src it s.heap) (e : snext H src = some none)
    (hE : ∀ h' x, Heap.ExtBut it s.heap h' → (∃ o, h'.get? x = some o ∧ o.cls = .type "StopIteration") → E (.ref x) { s with heap := h' }) : wpAny (model G.prog G.w) A (Builtin.SmallTypes.nextOf (.ref it)) Q E s := by
  cases hL with
  | str hs =>
    rename_i x t i
    cases q : x.cps[i]? with
    | none => exact wpAny_nextOf_ascii_end hA hs q hE
    | some c =>
      rw [drop_some q] at e; cases e
  | tup hi ht htup hv =>
    obtain ⟨o, ho, hc, hd⟩ := hi
    exact (inner_no hI ho (by rw [hc]; decide) (by rw [hc]; decide)).elim
  | range hr =>
    exact (inner_no hI hr (show (Value.type "range_iterator" == _) = false by decide) (show (Value.type "range_iterator" == _) = false by decide)).elim
  | list ha hi =>
    rename_i i k a
    refine snextE hh ha e fun l vs n ho hv e => ?_
    rcases hv.nth k with ⟨h1, h2⟩ | ⟨w, r, h1, h2, h3⟩
    · exact wpAny_nextOf_list_end hA hi ⟨_, ho, rfl, n, rfl⟩ (by simpa using h2) hE
    · rw [h1] at e; cases e
end
end Mine
end
section
open PySem PySem.W PyProof.Rows
set_option Elab.async false
set_option maxRecDepth 100000
set_option linter.all false
set_option autoImplicit false
namespace Mine
inductive ISrc where
  | leaf (s : Src)
  | enum (k : Nat) (s : Src)
  | zip (a b : Src)
noncomputable def nxO {β : Type} (x : Option (Option (AV × Src))) (f : AV → Src → β) : Option (Option β) := x.map fun o => o.map fun p => f p.1 p.2
theorem nxE {β : Type} {x : Option (Option (AV × Src))} {f : AV → Src → β} {r : β} {Q : Prop} (h : nxO x f = some (some r)) (k : ∀ v s, x = some (some (v, s)) → f v s = r → Q) : Q :=
  mapE h fun o e h => mapE h fun p e' h => k p.1 p.2 (by rw [e, e']) h
theorem nxN {β : Type} {x : Option (Option (AV × Src))} {f : AV → Src → β} (h : nxO x f = some none) : x = some none :=
  mapE h fun o e h => by cases o with
    | none => exact e
    | some p => cases h
noncomputable def inext (H : List AO) : ISrc → Option (Option (AV × ISrc))
  | .leaf s => nxO (snext H s) fun v s' => (v, .leaf s')
  | .enum k s => nxO (snext H s) fun v s' => (.tup [.int k, v], .enum (k + 1) s')
  | .zip a b => (snext H a).bind fun o => o.elim (some none) fun p => nxO (snext H b) fun y b' => (.tup [p.1, y], .zip p.2 b')
theorem zipE {H : List AO} {a b : Src} {r : AV × ISrc} {Q : Prop} (h : inext H (.zip a b) = some (some r)) (k : ∀ v a' w b', snext H a = some (some (v, a')) → snext H b = some (some (w, b')) → (.tup [v, w], .zip a' b') = r → Q) : Q :=
  bindE h fun o e h => by
    cases o with
    | none => cases h
    | some p => exact nxE (x := snext H b) (f := fun y b' => ((.tup [p.1, y], .zip p.2 b') : AV × ISrc)) h fun w b' e' h => k p.1 p.2 w b' e e' h
theorem leafE {H : List AO} {a : Src} {r : AV × ISrc} {Q : Prop} (h : inext H (.leaf a) = some (some r)) (k : ∀ v a', snext H a = some (some (v, a')) → (v, .leaf a') = r → Q) : Q :=
  nxE (x := snext H a) (f := fun v s' => ((v, .leaf s') : AV × ISrc)) h k
theorem enumE {H : List AO} {a : Src} {m : Nat} {r : AV × ISrc} {Q : Prop} (h : inext H (.enum m a) = some (some r)) (k : ∀ v a', snext H a = some (some (v, a')) → (.tup [.int m, v], .enum (m + 1) a') = r → Q) : Q :=
  nxE (x := snext H a) (f := fun v s' => ((.tup [.int m, v], .enum (m + 1) s') : AV × ISrc)) h k
theorem leafN {H : List AO} {a : Src} (h : inext H (.leaf a) = some none) : snext H a = some none := nxN (x := snext H a) (f := fun v s' => ((v, .leaf s') : AV × ISrc)) h
theorem enumN {H : List AO} {a : Src} {m : Nat} (h : inext H (.enum m a) = some none) : snext H a = some none := nxN (x := snext H a) (f := fun v s' => ((.tup [.int m, v], .enum (m + 1) s') : AV × ISrc)) h
theorem zipN {H : List AO} {a b : Src} (h : inext H (.zip a b) = some none) : snext H a = some none ∨ ∃ p, snext H a = some (some p) ∧ snext H b = some none :=
  bindE h fun o e h => by
    cases o with
    | none => exact .inl e
    | some p => exact .inr ⟨p, e, nxN (x := snext H b) (f := fun y b' => ((.tup [p.1, y], .zip p.2 b') : AV × ISrc)) h⟩
/-- a loop's turn -/
noncomputable def turnO {β : Type} (x : Option (Option (AV × ISrc))) (e : Option β) (f : AV → ISrc → Option β) : Option β := x.bind fun o => o.elim e fun p => f p.1 p.2
theorem turnE {β : Type} {x : Option (Option (AV × ISrc))} {e : Option β} {f : AV → ISrc → Option β} {r : β} {Q : Prop} (h : turnO x e f = some r) (k0 : x = some none → e = some r → Q) (k1 : ∀ v s, x = some (some (v, s)) → f v s = some r → Q) : Q :=
  bindE h fun o e h => by
    cases o with
    | none => exact k0 e h
    | some p => exact k1 p.1 p.2 e h
theorem turnI0 {β : Type} {x : Option (Option (AV × ISrc))} {e : Option β} {f : AV → ISrc → Option β} {r : Option β} (h : x = some none) (k : e = r) : turnO x e f = r := by rw [h]; exact k
theorem turnI1 {β : Type} {x : Option (Option (AV × ISrc))} {e : Option β} {f : AV → ISrc → Option β} {r : Option β} {v : AV} {s : ISrc} (h : x = some (some (v, s))) (k : f v s = r) : turnO x e f = r := by rw [h]; exact k
inductive IRel (h : Heap) (X φ : List Addr) : ISrc → Addr → List Addr → Prop
  | leaf {src : Src} {it : Addr} : Leaf h X φ src it → IRel h X φ (.leaf src) it [it]
  | enum {e it : Addr} {k : Nat} {old : Value} {src : Src} : IsEnum h e it k old → Leaf h X φ src it → Inner src it h → e ≠ it → IRel h X φ (.enum k src) e [e, it]
  | zip {z TI TO i1 i2 : Addr} {x y : Value} {a b : Src} : IsZip h z TI TO .none → IsPair h TI (.ref i1) (.ref i2) → IsPair h TO x y → Leaf h X φ a i1 → Inner a i1 h → Leaf h X φ b i2 → Inner b i2 h → ([z, TI, TO, i1, i2] : List Addr).Nodup → IRel h X φ (.zip a b) z [z, TI, TO, i1, i2]
theorem Inner.at {h h' : Heap} {src : Src} {it : Addr} (e : ∀ o, h.get? it = some o → h'.get? it = some o) (x : Inner src it h) : Inner src it h' := by
  rcases x with ⟨a, t, i, o, ho, r⟩ | ⟨a, k, o, ho, r⟩
  · exact .inl ⟨a, t, i, o, e _ ho, r⟩
  · exact .inr ⟨a, k, o, e _ ho, r⟩
theorem IRel.mono {h h' : Heap} {X φ φ' : List Addr} {src : ISrc} {it : Addr} {fp : List Addr} (k : TupK X h h') (p : Pre φ φ') (e : ∀ b ∈ fp, ∀ o, h.get? b = some o → h'.get? b = some o) (x : IRel h X φ src it fp) : IRel h' X φ' src it fp := by
  cases x with
  | leaf hl => exact .leaf (hl.mono k p (e _ (by simp)))
  | enum he hl hi hne => exact .enum (e _ (by simp) _ he) (hl.mono k p (e _ (by simp))) (hi.at (e _ (by simp))) hne
  | zip hz h1 h2 l1 i1 l2 i2 hn => exact .zip (e _ (by simp) _ hz) (e _ (by simp) _ h1) (e _ (by simp) _ h2) (l1.mono k p (e _ (by simp))) (i1.at (e _ (by simp))) (l2.mono k p (e _ (by simp))) (i2.at (e _ (by simp))) hn
theorem IRel.ex {h : Heap} {X φ : List Addr} {src : ISrc} {it : Addr} {fp : List Addr} (x : IRel h X φ src it fp) : ∀ b ∈ fp, ∃ o, h.get? b = some o := by
  intro b hb
  cases x with
  | leaf hl => simp at hb; subst hb; obtain ⟨o, _, _, ho, _⟩ := hl.obj; exact ⟨o, ho⟩
  | enum he hl hi hne =>
    simp at hb
    rcases hb with rfl | rfl
    · exact ⟨_, he⟩
    · obtain ⟨o, _, _, ho, _⟩ := hl.obj; exact ⟨o, ho⟩
  | zip hz h1 h2 l1 i1 l2 i2 hn =>
    simp at hb
    rcases hb with rfl | rfl | rfl | rfl | rfl
    · exact ⟨_, hz⟩
    · exact ⟨_, h1⟩
    · exact ⟨_, h2⟩
    · obtain ⟨o, _, _, ho, _⟩ := l1.obj; exact ⟨o, ho⟩
    · obtain ⟨o, _, _, ho, _⟩ := l2.obj; exact ⟨o, ho⟩
/-- a turn's start: the next item is there, the tuple let go -/
noncomputable def ItemAt (s : Shared) (X φ : List Addr) (src : ISrc) (it : Addr) (fp : List Addr) (v : AV) (rv : Value) (s' : Shared) : Prop :=
  ∃ h' t', s' = { s with heap := h', toks := t' } ∧ (∀ b o, b ∉ fp → s.heap.get? b = some o → h'.get? b = some o) ∧ VRel h' X φ v rv ∧ IRel h' X φ src it fp
section
variable {G : Glob} {n : Nat} {A : Around} {E : Value → Shared → Prop}
theorem letOwned_leaf {h X φ} {src : Src} {it : Addr} {elts : List Expr} {k : Nat} {pos : Pos} {r : Value} {s : Shared} {Q : Unit → Shared → Prop} (hl : Leaf h X φ src it) (hs : s.heap = h) (hq : Q () s) : wpAny (model G.prog G.w) A (letOwnedTupleGo (.Tuple elts k pos) (.ref it) r) Q E s := by
  subst hs
  obtain ⟨o, nm, vs, ho, hc, hd, hn⟩ := hl.obj
  unfold letOwnedTupleGo
  cases r with
  | ref a =>
    refine wpAny_bind (wpAny_load ho ?_)
    rw [hc, hd]
    show wpAny _ _ (if ((["enumerate", "zip", "dict_itemiterator", "dict_reverseitemiterator", "odict_iterator", "itertools.zip_longest", "itertools.pairwise"] : List String).contains nm && vs[0]? == some (rawInt a)) = true then _ else _) Q E s
    rw [hn]
    exact wpAny_pure hq
  | _ => exact wpAny_pure hq
noncomputable def tupX : Expr → Option (List Expr × Nat × Pos)
  | .Tuple a b c => some (a, b, c)
  | _ => none
theorem tupX_of {t : Expr} {p : List Expr × Nat × Pos} (h : tupX t = some p) : t = .Tuple p.1 p.2.1 p.2.2 :=
  elimE (p := fun p => t = .Tuple p.1 p.2.1 p.2.2) (by cases t <;> first | trivial | rfl) h
noncomputable def TupTarget (t : Expr) : Bool := (tupX t).isSome
noncomputable def NameTarget : Expr → Bool
  | .Name .. => true
  | _ => false
theorem letOwned_name {t : Expr} (h : NameTarget t = true) {it r : Value} {s : Shared} {Q : Unit → Shared → Prop} (hq : Q () s) : wpAny (model G.prog G.w) A (letOwnedTupleGo t it r) Q E s := by
  cases t <;> first | exact wpAny_pure hq | cases h
noncomputable def targetOk : ISrc → Expr → Bool
  | .leaf _, t => NameTarget t || TupTarget t
  | _, t => TupTarget t
theorem enum_itemT {X φ : List Addr} {H : List AO} {s : Shared} {src src' : Src} {e it : Addr} {v : AV} {k : Nat} {old : Value} {Q : Value → Shared → Prop} (hh : Hd G X φ H s) (hx : it ∈ X) (hxe : e ∈ X) (he : IsEnum s.heap e it k old) (hL : Leaf s.heap X φ src it) (hI : Inner src it s.heap) (hne : e ≠ it) (hdraw : ∀ (A : Around) (E : Value → Shared → Prop) (Q : Value → Shared → Prop), (∀ r h' t', Heap.SameBut it s.heap h' → VRel h' X φ v r → Leaf h' X φ src' it → Inner src' it h' → Q r { s with heap := h', toks := t' }) → wpAny (model G.prog G.w) A (Builtin.SmallTypes.nextOf (.ref it)) Q E s)
    (hQ : ∀ T h' t' i, IsEnumOut h' e it ((k : Int) + 1) i T → s.heap.get? T = none → h'.IsTuple T #[.int k t', i] → VRel h' X φ v i → Leaf h' X φ src' it → Inner src' it h' → (∀ b o, b ≠ e → b ≠ it → s.heap.get? b = some o → h'.get? b = some o) → ∀ t'', Q (.ref T) { s with heap := h', toks := t'' }) :
    wpAny (model G.prog G.w) A (Builtin.«enumerate.__next__» ⟨[.ref e], []⟩) (fun fin s' => ∃ v, fin = .done (.ret v) ∧ Q v s') E s := by
  show wpAny _ _ (field (.ref e) 2 >>= _) _ _ _
  refine wpAny_bind (wpAny_field he rfl (x := .ref it) rfl ?_)
  refine wpAny_bind (hdraw _ _ _ fun i h₁ t₁ hs₁ hv₁ hl₁ hi₁ => ?_)
  have he₁ : IsEnum h₁ e it k old := (hs₁.2 e hne).trans he
  obtain ⟨tk₁, hh₁⟩ := hh.step (h' := h₁) (t := t₁) [it] (fun b o q z => hs₁.extBut b o (by simpa using z) q) (fun x _ z => by simp at z; subst z; obtain ⟨o, _, _, ho, _⟩ := hl₁.obj; exact ⟨o, ho⟩) (fun b hb => by simp at hb; subst hb; exact ⟨hh.xφ _ hx, fun p hp q => hh.kX p hp (q ▸ hx), .inl hx⟩)
  show wpAny _ _ (field (.ref e) 3 >>= _) _ _ { s with heap := h₁, toks := t₁ }
  refine wpAny_bind (wpAny_field he₁ rfl (x := rawInt k) rfl ?_)
  show wpAny _ _ (field (.ref e) 4 >>= _) _ _ { s with heap := h₁, toks := t₁ }
  refine wpAny_bind (wpAny_field he₁ rfl (x := .none) rfl ?_)
  show wpAny _ _ (mkInt k >>= _) _ _ { s with heap := h₁, toks := t₁ }
  refine wpAny_bind (wpAny_mkInt ?_)
  show wpAny _ _ (setField (.ref e) 3 (rawInt ((k : Int) + 1)) >>= _) _ _ { s with heap := h₁, toks := t₁ + 1 }
  refine wpAny_bind (wpAny_setField_rec he₁ (by simp) fun h₂ he₂ hs₂ => ?_)
  replace hs₂ : Heap.SameBut e h₁ h₂ := hs₂
  replace he₂ : IsEnum h₂ e it ((k : Int) + 1) old := he₂
  show wpAny _ _ (setField (.ref e) 4 .none >>= _) _ _ { s with heap := h₂, toks := t₁ + 1 }
  refine wpAny_bind (wpAny_setField_rec he₂ (by simp) fun h₃ he₃ hs₃ => ?_)
  replace hs₃ : Heap.SameBut e h₂ h₃ := hs₃
  replace he₃ : IsEnum h₃ e it ((k : Int) + 1) old := he₃
  show wpAny _ _ (newTuple [.int k t₁, i] >>= _) _ _ { s with heap := h₃, toks := t₁ + 1 }
  refine wpAny_bind (wpAny_newTuple ?_)
  have hel : e < h₃.objs.size := Heap.lt_size he₃
  have hT₄ : (h₃.push { cls := .type "tuple", data := .seq #[.int k t₁, i] }).get? h₃.objs.size = some { cls := .type "tuple", data := .seq #[.int k t₁, i] } := Heap.get?_push_size _ rfl
  have he₄ : IsEnum (h₃.push { cls := .type "tuple", data := .seq #[.int k t₁, i] }) e it ((k : Int) + 1) old := Heap.get?_push_of_some _ he₃
  have k₄ : ∀ b o, b ≠ e → h₁.get? b = some o → (h₃.push { cls := .type "tuple", data := .seq #[.int k t₁, i] }).get? b = some o := fun b o q z => Heap.get?_push_of_some _ (hs₃.extBut b o q (hs₂.extBut b o q z))
  have hnone : s.heap.get? h₃.objs.size = none := by
    cases q : s.heap.get? h₃.objs.size with
    | none => rfl
    | some o =>
      exfalso
      have e0 : h₃.objs.size < s.heap.objs.size := Heap.lt_size q
      have e1 : h₁.objs.size = s.heap.objs.size := hs₁.1
      have e2 : h₂.objs.size = h₁.objs.size := hs₂.1
      have e3 : h₃.objs.size = h₂.objs.size := hs₃.1
      rw [e3, e2, e1] at e0
      exact absurd e0 (Nat.lt_irrefl _)
  generalize h₃.push { cls := .type "tuple", data := .seq #[.int k t₁, i] } = h₄ at he₄ hT₄ k₄
  show wpAny _ _ (Builtin.SmallTypes.ownedTupleIsFree (.ref e) >>= _) _ _ { s with heap := h₄, toks := t₁ + 1 }
  refine wpAny_bind ?_
  unfold Builtin.SmallTypes.ownedTupleIsFree
  refine wpAny_bind (wpAny_field he₄ rfl (x := .none) rfl (wpAny_pure ?_))
  simp only [if_true]
  refine wpAny_bind (wpAny_rule ?_)
  refine wpAny_bind (wpAny_field he₄ rfl (x := old) rfl ?_)
  refine wpAny_bind (wpAny_setField_rec he₄ (by simp) fun h₅ he₅ hs₅ => ?_)
  replace hs₅ : Heap.SameBut e h₄ h₅ := hs₅
  replace he₅ : IsEnum h₅ e it ((k : Int) + 1) i := he₅
  show wpAny _ _ (Builtin.SmallTypes.ownedTupleHandOut (.ref e) (.ref h₃.objs.size) >>= _) _ _ { s with heap := h₅, toks := t₁ + 1 }
  refine wpAny_bind ?_
  unfold Builtin.SmallTypes.ownedTupleHandOut
  refine wpAny_bind (wpAny_setField_rec he₅ (by simp) fun h₆ he₆ hs₆ => ?_)
  replace hs₆ : Heap.SameBut e h₅ h₆ := hs₆
  replace he₆ : IsEnumOut h₆ e it ((k : Int) + 1) i h₃.objs.size := he₆
  refine wpAny_setField_rec he₆ (by simp) fun h₇ he₇ hs₇ => ?_
  replace hs₇ : Heap.SameBut e h₆ h₇ := hs₇
  replace he₇ : IsEnumOut h₇ e it ((k : Int) + 1) i h₃.objs.size := he₇
  have k₇ : ∀ b o, b ≠ e → h₄.get? b = some o → h₇.get? b = some o := fun b o q z => hs₇.extBut b o q (hs₆.extBut b o q (hs₅.extBut b o q z))
  have kk : ∀ b o, b ≠ e → h₁.get? b = some o → h₇.get? b = some o := fun b o q z => k₇ b o q (k₄ b o q z)
  have tk : TupK X h₁ h₇ := fun a vs ⟨o, ho, r⟩ ha => ⟨o, kk a o (fun q => ha (q ▸ hxe)) ho, r⟩
  refine wpAny_bind (wpAny_letGo (wpAny_pure ⟨_, rfl, hQ h₃.objs.size h₇ t₁ i he₇ hnone ⟨_, k₇ _ _ (Nat.ne_of_gt hel) hT₄, rfl, 0, rfl⟩ (hv₁.mono tk (.refl φ)) (hl₁.mono tk (.refl φ) fun o z => kk _ _ (Ne.symm hne) z) (hi₁.at fun o z => kk _ _ (Ne.symm hne) z) (fun b o q1 q2 z => kk b o q1 (hs₁.extBut b o q2 z)) _⟩))
theorem enum_item {X φ : List Addr} {H : List AO} {s : Shared} {src src' : Src} {e it : Addr} {v : AV} {k : Nat} {old : Value} {Q : Value → Shared → Prop} (hh : Hd G X φ H s) (hx : it ∈ X) (hxe : e ∈ X) (he : IsEnum s.heap e it k old) (hL : Leaf s.heap X φ src it) (hI : Inner src it s.heap) (hne : e ≠ it) (hn : snext H src = some (some (v, src')))
    (hQ : ∀ T h' t' i, IsEnumOut h' e it ((k : Int) + 1) i T → s.heap.get? T = none → h'.IsTuple T #[.int k t', i] → VRel h' X φ v i → Leaf h' X φ src' it → Inner src' it h' → (∀ b o, b ≠ e → b ≠ it → s.heap.get? b = some o → h'.get? b = some o) → ∀ t'', Q (.ref T) { s with heap := h', toks := t'' }) :
    wpAny (model G.prog G.w) A (Builtin.«enumerate.__next__» ⟨[.ref e], []⟩) (fun fin s' => ∃ v, fin = .done (.ret v) ∧ Q v s') E s :=
  enum_itemT hh hx hxe he hL hI hne (fun A E Q hq => leaf_draw hh hx hL hI hn hq) hQ
theorem enum_nextT {X φ : List Addr} {H : List AO} {s : Shared} {src src' : Src} {e it : Addr} {v : AV} {k : Nat} {old : Value} {elts : List Expr} {c : Nat} {pos : Pos} (hh : Hd G X φ H s) (hx : it ∈ X) (hxe : e ∈ X) (he : IsEnum s.heap e it k old) (hL : Leaf s.heap X φ src it) (hI : Inner src it s.heap) (hne : e ≠ it) (hdraw : ∀ (A : Around) (E : Value → Shared → Prop) (Q : Value → Shared → Prop), (∀ r h' t', Heap.SameBut it s.heap h' → VRel h' X φ v r → Leaf h' X φ src' it → Inner src' it h' → Q r { s with heap := h', toks := t' }) → wpAny (model G.prog G.w) A (Builtin.SmallTypes.nextOf (.ref it)) Q E s) :
    wpAny (model G.prog G.w) A (pyNext (.ref e)) (fun r s₁ => ∃ rv, r = some rv ∧ wpAny (model G.prog G.w) A (letOwnedTupleGo (.Tuple elts c pos) (.ref e) rv) (fun _ s₂ => ItemAt s X φ (.enum (k + 1) src') e [e, it] (.tup [.int k, v]) rv s₂) noE s₁) noE s := by
  have hT : s.TypeIs (.ref e) "enumerate" := ⟨_, he, rfl⟩
  unfold pyNext
  refine wpAny_bind (wpAny_attempt (wpAny_callSpecial?_slot (name := Str.ofString "__next__") hT F.slot_enumerate_next
    (wpAny_call_entry F.slot_enumerate_next hT F.entry_enumerate_next
      (enum_itemT hh hx hxe he hL hI hne hdraw fun T h' t' i h1 h2 h3 h4 h5 h6 h7 t'' => ?_) (F.args_enumerate_next_1 _))))
  refine wpAny_pure ⟨_, rfl, ?_⟩
  refine wpAny_letOwnedTupleGo_enum h1 fun h'' he'' hs'' => ?_
  replace hs'' : Heap.SameBut e h' h'' := hs''
  have tk : TupK X h' h'' := fun a vs ⟨o, ho, r⟩ ha => ⟨o, hs''.extBut a o (fun q => ha (q ▸ hxe)) ho, r⟩
  have nX : T ∉ X := fun q => by obtain ⟨o, ho⟩ := hh.xx _ q; rw [h2] at ho; cases ho
  refine ⟨h'', t'', rfl, fun b o q z => hs''.extBut b o (by simp at q; exact q.1) (h7 b o (by simp at q; exact q.1) (by simp at q; exact q.2) z), .tup nX (vs := [.int k t', i]) (tk _ _ h3 nX) (.cons (.int _ _) (.cons (h4.mono tk (.refl φ)) .nil)), ?_⟩
  have he3 : IsEnum h'' e it ((k + 1 : Nat) : Int) i := by rw [Int.natCast_add]; exact he''
  exact .enum he3 (h5.mono tk (.refl φ) fun o z => hs''.extBut _ _ (Ne.symm hne) z) (h6.at fun o z => hs''.extBut _ _ (Ne.symm hne) z) hne
theorem enum_next {X φ : List Addr} {H : List AO} {s : Shared} {src src' : Src} {e it : Addr} {v : AV} {k : Nat} {old : Value} {elts : List Expr} {c : Nat} {pos : Pos} (hh : Hd G X φ H s) (hx : it ∈ X) (hxe : e ∈ X) (he : IsEnum s.heap e it k old) (hL : Leaf s.heap X φ src it) (hI : Inner src it s.heap) (hne : e ≠ it) (hn : snext H src = some (some (v, src'))) :
    wpAny (model G.prog G.w) A (pyNext (.ref e)) (fun r s₁ => ∃ rv, r = some rv ∧ wpAny (model G.prog G.w) A (letOwnedTupleGo (.Tuple elts c pos) (.ref e) rv) (fun _ s₂ => ItemAt s X φ (.enum (k + 1) src') e [e, it] (.tup [.int k, v]) rv s₂) noE s₁) noE s :=
  enum_nextT hh hx hxe he hL hI hne fun A E Q hq => leaf_draw hh hx hL hI hn hq
end
end Mine
end
section
open PySem PySem.W PyProof.Rows
set_option Elab.async false
set_option maxRecDepth 100000
set_option linter.all false
set_option autoImplicit false
namespace Mine
section
variable {G : Glob} {n : Nat} {A : Around} {E : Value → Shared → Prop}
theorem enum_end {X φ : List Addr} {H : List AO} {s : Shared} {src : Src} {e it : Addr} {k : Nat} {old : Value} (hA : A.handled = none) (hh : Hd G X φ H s) (he : IsEnum s.heap e it k old) (hL : Leaf s.heap X φ src it) (hI : Inner src it s.heap) (hn : snext H src = some none) :
    wpAny (model G.prog G.w) A (pyNext (.ref e)) (fun r s' => r = none ∧ ∃ h' t', s' = { s with heap := h', toks := t' } ∧ ∀ b o, b ∉ [e, it] → s.heap.get? b = some o → h'.get? b = some o) noE s := by
  have hT : s.TypeIs (.ref e) "enumerate" := ⟨_, he, rfl⟩
  unfold pyNext
  refine wpAny_bind (wpAny_attempt (wpAny_callSpecial?_slot (name := Str.ofString "__next__") hT F.slot_enumerate_next
    (wpAny_call_entry F.slot_enumerate_next hT F.entry_enumerate_next ?_ (F.args_enumerate_next_1 _))))
  show wpAny _ _ (field (.ref e) 2 >>= _) _ _ _
  refine wpAny_bind (wpAny_field he rfl (x := .ref it) rfl ?_)
  refine wpAny_bind (leaf_over hA hh hL hI hn fun h' x he' hx' => ?_)
  obtain ⟨o, ho, hc⟩ := hx'
  refine wpAny_bind (wpAny_isInstance (T := "StopIteration") (b := true) ⟨o, ho, hc⟩ isSubtype_stop ?_)
  exact wpAny_pure ⟨rfl, h', s.toks, rfl, fun b o q z => he' b o (by simp at q; exact q.2) z⟩
theorem zip_item {X φ : List Addr} {H : List AO} {s : Shared} {sa sa' sb sb' : Src} {z TI TO i1 i2 : Addr} {va vb : AV} {x y : Value} {Q : Value → Shared → Prop} (hh : Hd G X φ H s) (hfp : ∀ b ∈ [z, TI, TO, i1, i2], b ∈ X) (hz : IsZip s.heap z TI TO .none) (hTI : IsPair s.heap TI (.ref i1) (.ref i2)) (hTO : IsPair s.heap TO x y)
    (hL1 : Leaf s.heap X φ sa i1) (hI1 : Inner sa i1 s.heap) (hL2 : Leaf s.heap X φ sb i2) (hI2 : Inner sb i2 s.heap) (hd : ([z, TI, TO, i1, i2] : List Addr).Nodup) (hn1 : snext H sa = some (some (va, sa'))) (hn2 : snext H sb = some (some (vb, sb')))
    (hQ : ∀ (T : Addr) (h' : Heap) (t' : Nat) (p q : Value), IsZip h' z TI TO (rawInt T) → IsPair h' TI (.ref i1) (.ref i2) → IsPair h' TO p q → s.heap.get? T = none → IsPair h' T p q → VRel h' X φ va p → VRel h' X φ vb q → Leaf h' X φ sa' i1 → Inner sa' i1 h' → Leaf h' X φ sb' i2 → Inner sb' i2 h' →
      (∀ b o, b ∉ [z, TI, TO, i1, i2] → s.heap.get? b = some o → h'.get? b = some o) → Q (.ref T) { s with heap := h', toks := t' }) :
    wpAny (model G.prog G.w) A (Builtin.«zip.__next__» ⟨[.ref z], []⟩) (fun fin s' => ∃ v, fin = .done (.ret v) ∧ Q v s') E s := by
  simp only [List.nodup_cons, List.mem_cons, List.not_mem_nil, or_false, not_or, List.nodup_nil, and_true] at hd
  obtain ⟨⟨zTI, zTO, z1, z2⟩, ⟨TITO, TI1, TI2⟩, ⟨TO1, TO2⟩, n12, _⟩ := hd
  have z1X := hfp z (by simp)
  have x1 := hfp i1 (by simp)
  have x2 := hfp i2 (by simp)
  have xTO := hfp TO (by simp)
  show wpAny _ _ (field (.ref z) 2 >>= _) _ _ _
  refine wpAny_bind (wpAny_field hz rfl (x := .bool false) rfl ?_)
  show wpAny _ _ (field (.ref z) 3 >>= _) _ _ _
  refine wpAny_bind (wpAny_field hz rfl (x := .ref TI) rfl ?_)
  refine wpAny_bind (wpAny_seqItems hTI rfl ?_)
  show wpAny _ _ (Builtin.SmallTypes.ownedTupleIsFree (.ref z) >>= _) _ _ _
  refine wpAny_bind ?_
  unfold Builtin.SmallTypes.ownedTupleIsFree
  refine wpAny_bind (wpAny_field hz rfl (x := .none) rfl (wpAny_pure ?_))
  simp only [if_true]
  refine wpAny_bind (wpAny_rule ?_)
  refine wpAny_bind (wpAny_field hz rfl (x := .ref TO) rfl ?_)
  refine wpAny_bind (wpAny_setField_rec hz (by simp) fun h₁ hz₁ hs₁ => ?_)
  replace hz₁ : IsZip h₁ z TI TO .ellipsis := hz₁
  replace hs₁ : Heap.SameBut z s.heap h₁ := hs₁
  have mv : ∀ {s : Shared} {h' : Heap} {t : Nat} {c : Addr}, Hd G X φ H s → c ∈ X → Heap.SameBut c s.heap h' → (∃ o, h'.get? c = some o) → TupK X s.heap h' ∧ Hd G X φ H { s with heap := h', toks := t } := fun hh hc hs ho =>
    hh.step [_] (fun b o q w => hs.extBut b o (by simpa using w) q) (fun x _ w => by simp at w; subst w; exact ho) (fun b hb => by simp at hb; subst hb; exact ⟨hh.xφ _ hc, fun p hp q => hh.kX p hp (q ▸ hc), .inl hc⟩)
  obtain ⟨tk₁, hh₁⟩ := mv (t := s.toks) hh z1X hs₁ ⟨_, hz₁⟩
  refine wpAny_bind ?_
  simp only [List.zipIdx_cons, List.zipIdx_nil, List.forIn_cons, List.forIn_nil]
  refine wpAny_bind (wpAny_bind (wpAny_onRaise ?_))
  show wpAny _ _ (Builtin.SmallTypes.nextOf (.ref i1) >>= _) _ _ _
  refine wpAny_bind (leaf_draw (s := { s with heap := h₁ }) hh₁ x1 (hL1.mono tk₁ (.refl φ) fun o w => hs₁.extBut _ _ (Ne.symm z1) w) (hI1.at fun o w => hs₁.extBut _ _ (Ne.symm z1) w) hn1 fun p h₂ t₂ hs₂ hv₂ hl₂ hi₂ => wpAny_pure ?_)
  replace hs₂ : Heap.SameBut i1 h₁ h₂ := hs₂
  obtain ⟨tk₂, hh₂⟩ := mv (t := t₂) hh₁ x1 hs₂ (by obtain ⟨o, _, _, ho, _⟩ := hl₂.obj; exact ⟨o, ho⟩)
  have hTO₂ : IsPair h₂ TO x y := hs₂.extBut _ _ TO1 (hs₁.extBut _ _ (Ne.symm zTO) hTO)
  refine wpAny_bind (wpAny_seqItems hTO₂ rfl ?_)
  refine wpAny_bind (wpAny_updateSeq_pair hTO₂ fun h₃ hTO₃ hs₃ => ?_)
  replace hTO₃ : IsPair h₃ TO p y := hTO₃
  replace hs₃ : Heap.SameBut TO h₂ h₃ := hs₃
  obtain ⟨tk₃, hh₃⟩ := mv (t := t₂) hh₂ xTO hs₃ ⟨_, hTO₃⟩
  refine wpAny_bind (wpAny_letGo (wpAny_pure ?_))
  refine wpAny_bind (wpAny_bind (wpAny_onRaise ?_))
  show wpAny _ _ (Builtin.SmallTypes.nextOf (.ref i2) >>= _) _ _ _
  have up2 : ∀ o, s.heap.get? i2 = some o → h₃.get? i2 = some o := fun o w => hs₃.extBut _ _ (Ne.symm TO2) (hs₂.extBut _ _ (Ne.symm n12) (hs₁.extBut _ _ (Ne.symm z2) w))
  have tk₁₃ : TupK X s.heap h₃ := fun a vs w ha => tk₃ a vs (tk₂ a vs (tk₁ a vs w ha) ha) ha
  refine wpAny_bind (leaf_draw (s := { s with heap := h₃, toks := t₂ }) hh₃ x2 (hL2.mono tk₁₃ (.refl φ) up2) (hI2.at up2) hn2 fun q h₄ t₄ hs₄ hv₄ hl₄ hi₄ => wpAny_pure ?_)
  replace hs₄ : Heap.SameBut i2 h₃ h₄ := hs₄
  obtain ⟨tk₄, hh₄⟩ := mv (t := t₄) hh₃ x2 hs₄ (by obtain ⟨o, _, _, ho, _⟩ := hl₄.obj; exact ⟨o, ho⟩)
  have hTO₄ : IsPair h₄ TO p y := hs₄.extBut _ _ TO2 hTO₃
  refine wpAny_bind (wpAny_seqItems hTO₄ rfl ?_)
  refine wpAny_bind (wpAny_updateSeq_pair hTO₄ fun h₅ hTO₅ hs₅ => ?_)
  replace hTO₅ : IsPair h₅ TO p q := hTO₅
  replace hs₅ : Heap.SameBut TO h₄ h₅ := hs₅
  obtain ⟨tk₅, hh₅⟩ := mv (t := t₄) hh₄ xTO hs₅ ⟨_, hTO₅⟩
  refine wpAny_bind (wpAny_letGo (wpAny_pure (wpAny_pure ?_)))
  refine wpAny_bind (wpAny_seqItems hTO₅ rfl ?_)
  refine wpAny_bind (wpAny_newTuple ?_)
  have hz₅ : IsZip h₅ z TI TO .ellipsis := hs₅.extBut _ _ zTO (hs₄.extBut _ _ z2 (hs₃.extBut _ _ zTO (hs₂.extBut _ _ z1 hz₁)))
  have hTI₅ : IsPair h₅ TI (.ref i1) (.ref i2) := hs₅.extBut _ _ TITO (hs₄.extBut _ _ TI2 (hs₃.extBut _ _ TITO (hs₂.extBut _ _ TI1 (hs₁.extBut _ _ (Ne.symm zTI) hTI))))
  have k₅ : ∀ c o, c ∉ [z, TI, TO, i1, i2] → s.heap.get? c = some o → h₅.get? c = some o := fun c o w e => by
    simp only [List.mem_cons, List.not_mem_nil, or_false, not_or] at w
    exact hs₅.extBut _ _ w.2.2.1 (hs₄.extBut _ _ w.2.2.2.2 (hs₃.extBut _ _ w.2.2.1 (hs₂.extBut _ _ w.2.2.2.1 (hs₁.extBut _ _ w.1 e))))
  have l1₅ : Leaf h₅ X φ sa' i1 := hl₂.mono (fun a vs w ha => tk₅ a vs (tk₄ a vs (tk₃ a vs w ha) ha) ha) (.refl φ) fun o w => hs₅.extBut _ _ (Ne.symm TO1) (hs₄.extBut _ _ n12 (hs₃.extBut _ _ (Ne.symm TO1) w))
  have i1₅ : Inner sa' i1 h₅ := hi₂.at fun o w => hs₅.extBut _ _ (Ne.symm TO1) (hs₄.extBut _ _ n12 (hs₃.extBut _ _ (Ne.symm TO1) w))
  have l2₅ : Leaf h₅ X φ sb' i2 := hl₄.mono tk₅ (.refl φ) fun o w => hs₅.extBut _ _ (Ne.symm TO2) w
  have i2₅ : Inner sb' i2 h₅ := hi₄.at fun o w => hs₅.extBut _ _ (Ne.symm TO2) w
  have v1₅ : VRel h₅ X φ va p := hv₂.mono (fun a vs w ha => tk₅ a vs (tk₄ a vs (tk₃ a vs w ha) ha) ha) (.refl φ)
  have v2₅ : VRel h₅ X φ vb q := hv₄.mono tk₅ (.refl φ)
  have hnone : s.heap.get? h₅.objs.size = none := by
    cases w : s.heap.get? h₅.objs.size with
    | none => rfl
    | some o =>
      exfalso
      have e0 : h₅.objs.size < s.heap.objs.size := Heap.lt_size w
      have e5 : h₅.objs.size = h₄.objs.size := hs₅.1
      have e4 : h₄.objs.size = h₃.objs.size := hs₄.1
      have e3 : h₃.objs.size = h₂.objs.size := hs₃.1
      have e2 : h₂.objs.size = h₁.objs.size := hs₂.1
      have e1 : h₁.objs.size = s.heap.objs.size := hs₁.1
      rw [e5, e4, e3, e2, e1] at e0
      exact absurd e0 (Nat.lt_irrefl _)
  have hzlt : z < h₅.objs.size := Heap.lt_size hz₅
  show wpAny _ _ (Builtin.SmallTypes.ownedTupleHandOut (.ref z) (.ref h₅.objs.size) >>= _) _ _ _
  refine wpAny_bind ?_
  unfold Builtin.SmallTypes.ownedTupleHandOut
  have hz₆ : IsZip (h₅.push { cls := .type "tuple", data := .seq #[p, q] }) z TI TO .ellipsis := Heap.get?_push_of_some _ hz₅
  refine wpAny_bind (wpAny_setField_rec hz₆ (by simp) fun h₇ hz₇ hs₇ => ?_)
  replace hz₇ : IsZip h₇ z TI TO (rawInt h₅.objs.size) := hz₇
  refine wpAny_setField_rec hz₇ (by simp) fun h₈ hz₈ hs₈ => ?_
  replace hz₈ : IsZip h₈ z TI TO (rawInt h₅.objs.size) := hz₈
  have up : ∀ c o, c ≠ z → h₅.get? c = some o → h₈.get? c = some o := fun c o c1 e => hs₈.extBut _ _ c1 (hs₇.extBut _ _ c1 (Heap.get?_push_of_some _ e))
  have tk₈ : TupK X h₅ h₈ := fun a vs ⟨o, ho, r⟩ ha => ⟨o, up a o (fun w => ha (w ▸ z1X)) ho, r⟩
  refine wpAny_pure ⟨_, rfl, ?_⟩
  exact hQ h₅.objs.size h₈ t₄ p q hz₈ (up _ _ (Ne.symm zTI) hTI₅) (up _ _ (Ne.symm zTO) hTO₅) hnone (hs₈.extBut _ _ (Nat.ne_of_gt hzlt) (hs₇.extBut _ _ (Nat.ne_of_gt hzlt) (Heap.get?_push_size _ rfl)))
    (v1₅.mono tk₈ (.refl φ)) (v2₅.mono tk₈ (.refl φ)) (l1₅.mono tk₈ (.refl φ) fun o w => up _ _ (Ne.symm z1) w) (i1₅.at fun o w => up _ _ (Ne.symm z1) w) (l2₅.mono tk₈ (.refl φ) fun o w => up _ _ (Ne.symm z2) w) (i2₅.at fun o w => up _ _ (Ne.symm z2) w)
    (fun b o w e => up b o (by simp only [List.mem_cons, List.not_mem_nil, or_false, not_or] at w; exact w.1) (k₅ b o w e))
theorem zip_next {X φ : List Addr} {H : List AO} {s : Shared} {sa sa' sb sb' : Src} {z TI TO i1 i2 : Addr} {va vb : AV} {x y : Value} {elts : List Expr} {c : Nat} {pos : Pos} (hh : Hd G X φ H s) (hfp : ∀ b ∈ [z, TI, TO, i1, i2], b ∈ X) (hz : IsZip s.heap z TI TO .none) (hTI : IsPair s.heap TI (.ref i1) (.ref i2)) (hTO : IsPair s.heap TO x y)
    (hL1 : Leaf s.heap X φ sa i1) (hI1 : Inner sa i1 s.heap) (hL2 : Leaf s.heap X φ sb i2) (hI2 : Inner sb i2 s.heap) (hd : ([z, TI, TO, i1, i2] : List Addr).Nodup) (hn1 : snext H sa = some (some (va, sa'))) (hn2 : snext H sb = some (some (vb, sb'))) :
    wpAny (model G.prog G.w) A (pyNext (.ref z)) (fun r s₁ => ∃ rv, r = some rv ∧ wpAny (model G.prog G.w) A (letOwnedTupleGo (.Tuple elts c pos) (.ref z) rv) (fun _ s₂ => ItemAt s X φ (.zip sa' sb') z [z, TI, TO, i1, i2] (.tup [va, vb]) rv s₂) noE s₁) noE s := by
  have hT : s.TypeIs (.ref z) "zip" := ⟨_, hz, rfl⟩
  unfold pyNext
  refine wpAny_bind (wpAny_attempt (wpAny_callSpecial?_slot (name := Str.ofString "__next__") hT F.slot_zip_next
    (wpAny_call_entry F.slot_zip_next hT F.entry_zip_next
      (zip_item hh hfp hz hTI hTO hL1 hI1 hL2 hI2 hd hn1 hn2 fun T h' t' p q h1 h2 h3 h4 h5 v1 v2 l1 i1' l2 i2' hk => ?_) (F.args_zip_next_1 _))))
  refine wpAny_pure ⟨_, rfl, ?_⟩
  refine wpAny_letOwnedTupleGo_zip h1 fun h'' hz'' hs'' => ?_
  replace hs'' : Heap.SameBut z h' h'' := hs''
  have zX := hfp z (by simp)
  have hd' := hd
  simp only [List.nodup_cons, List.mem_cons, List.not_mem_nil, or_false, not_or, List.nodup_nil, and_true] at hd'
  obtain ⟨⟨zTI, zTO, z1, z2⟩, _⟩ := hd'
  have tk : TupK X h' h'' := fun a vs ⟨o, ho, r⟩ ha => ⟨o, hs''.extBut a o (fun w => ha (w ▸ zX)) ho, r⟩
  have nX : T ∉ X := fun w => by obtain ⟨o, ho⟩ := hh.xx _ w; rw [h4] at ho; cases ho
  refine ⟨h'', t', rfl, fun b o w e => hs''.extBut b o (by simp only [List.mem_cons, List.not_mem_nil, or_false, not_or] at w; exact w.1) (hk b o w e), .tup nX (vs := [p, q]) (tk _ _ ⟨_, h5, rfl, 0, rfl⟩ nX) (.cons (v1.mono tk (.refl φ)) (.cons (v2.mono tk (.refl φ)) .nil)), ?_⟩
  exact .zip hz'' (hs''.extBut _ _ (Ne.symm zTI) h2) (hs''.extBut _ _ (Ne.symm zTO) h3) (l1.mono tk (.refl φ) fun o w => hs''.extBut _ _ (Ne.symm z1) w) (i1'.at fun o w => hs''.extBut _ _ (Ne.symm z1) w) (l2.mono tk (.refl φ) fun o w => hs''.extBut _ _ (Ne.symm z2) w) (i2'.at fun o w => hs''.extBut _ _ (Ne.symm z2) w) hd
end
end Mine
end
section
open PySem PySem.W PyProof.Rows
set_option Elab.async false
set_option maxRecDepth 100000
set_option linter.all false
set_option autoImplicit false
namespace Mine
section
variable {G : Glob} {n : Nat} {A : Around} {E : Value → Shared → Prop}
noncomputable def OverAt (s : Shared) (fp : List Addr) (s' : Shared) : Prop := ∃ h' t', s' = { s with heap := h', toks := t' } ∧ ∀ b o, b ∉ fp → s.heap.get? b = some o → h'.get? b = some o
theorem zip_end {X φ : List Addr} {H : List AO} {s : Shared} {sa sb : Src} {z TI TO i1 i2 : Addr} {x y : Value} (hA : A.handled = none) (hh : Hd G X φ H s) (hfp : ∀ b ∈ [z, TI, TO, i1, i2], b ∈ X) (hz : IsZip s.heap z TI TO .none) (hTI : IsPair s.heap TI (.ref i1) (.ref i2)) (hTO : IsPair s.heap TO x y)
    (hL1 : Leaf s.heap X φ sa i1) (hI1 : Inner sa i1 s.heap) (hL2 : Leaf s.heap X φ sb i2) (hI2 : Inner sb i2 s.heap) (hd : ([z, TI, TO, i1, i2] : List Addr).Nodup) (hn : snext H sa = some none ∨ ∃ p, snext H sa = some (some p) ∧ snext H sb = some none) :
    wpAny (model G.prog G.w) A (pyNext (.ref z)) (fun r s' => r = none ∧ OverAt s [z, TI, TO, i1, i2] s') noE s := by
  simp only [List.nodup_cons, List.mem_cons, List.not_mem_nil, or_false, not_or, List.nodup_nil, and_true] at hd
  obtain ⟨⟨zTI, zTO, z1, z2⟩, ⟨TITO, TI1, TI2⟩, ⟨TO1, TO2⟩, n12, _⟩ := hd
  have z1X := hfp z (by simp)
  have x1 := hfp i1 (by simp)
  have x2 := hfp i2 (by simp)
  have xTO := hfp TO (by simp)
  have hT : s.TypeIs (.ref z) "zip" := ⟨_, hz, rfl⟩
  unfold pyNext
  refine wpAny_bind (wpAny_attempt (wpAny_callSpecial?_slot (name := Str.ofString "__next__") hT F.slot_zip_next
    (wpAny_call_entry F.slot_zip_next hT F.entry_zip_next ?_ (F.args_zip_next_1 _))))
  have fin : ∀ h' e, (∀ b o, b ∉ [z, TI, TO, i1, i2] → s.heap.get? b = some o → h'.get? b = some o) → (∃ o, h'.get? e = some o ∧ o.cls = .type "StopIteration") → ∀ t',
      wpAny (model G.prog G.w) A (do if ← isInstance (.ref e) (.type "StopIteration") then pure none else throw (.ref e)) (fun r s' => r = (none : Option Value) ∧ OverAt s [z, TI, TO, i1, i2] s') noE { s with heap := h', toks := t' } := by
    rintro h' e hk ⟨o, ho, hc⟩ t'
    refine wpAny_bind (wpAny_isInstance (T := "StopIteration") (b := true) ⟨o, ho, hc⟩ isSubtype_stop ?_)
    exact wpAny_pure ⟨rfl, h', t', rfl, hk⟩
  show wpAny _ _ (field (.ref z) 2 >>= _) _ _ _
  refine wpAny_bind (wpAny_field hz rfl (x := .bool false) rfl ?_)
  show wpAny _ _ (field (.ref z) 3 >>= _) _ _ _
  refine wpAny_bind (wpAny_field hz rfl (x := .ref TI) rfl ?_)
  refine wpAny_bind (wpAny_seqItems hTI rfl ?_)
  show wpAny _ _ (Builtin.SmallTypes.ownedTupleIsFree (.ref z) >>= _) _ _ _
  refine wpAny_bind ?_
  unfold Builtin.SmallTypes.ownedTupleIsFree
  refine wpAny_bind (wpAny_field hz rfl (x := .none) rfl (wpAny_pure ?_))
  simp only [if_true]
  refine wpAny_bind (wpAny_rule ?_)
  refine wpAny_bind (wpAny_field hz rfl (x := .ref TO) rfl ?_)
  refine wpAny_bind (wpAny_setField_rec hz (by simp) fun h₁ hz₁ hs₁ => ?_)
  replace hz₁ : IsZip h₁ z TI TO .ellipsis := hz₁
  replace hs₁ : Heap.SameBut z s.heap h₁ := hs₁
  have mv : ∀ {s : Shared} {h' : Heap} {t : Nat} {c : Addr}, Hd G X φ H s → c ∈ X → Heap.SameBut c s.heap h' → (∃ o, h'.get? c = some o) → TupK X s.heap h' ∧ Hd G X φ H { s with heap := h', toks := t } := fun hh hc hs ho =>
    hh.step [_] (fun b o q w => hs.extBut b o (by simpa using w) q) (fun x _ w => by simp at w; subst w; exact ho) (fun b hb => by simp at hb; subst hb; exact ⟨hh.xφ _ hc, fun p hp q => hh.kX p hp (q ▸ hc), .inl hc⟩)
  obtain ⟨tk₁, hh₁⟩ := mv (t := s.toks) hh z1X hs₁ ⟨_, hz₁⟩
  refine wpAny_bind ?_
  simp only [List.zipIdx_cons, List.zipIdx_nil, List.forIn_cons, List.forIn_nil]
  refine wpAny_bind (wpAny_bind (wpAny_onRaise ?_))
  show wpAny _ _ (Builtin.SmallTypes.nextOf (.ref i1) >>= _) _ _ _
  have up1 : ∀ o, s.heap.get? i1 = some o → h₁.get? i1 = some o := fun o w => hs₁.extBut _ _ (Ne.symm z1) w
  rcases hn with hn | ⟨⟨va, sa'⟩, hn1, hn2⟩
  · refine wpAny_bind (leaf_over (s := { s with heap := h₁ }) hA hh₁ (hL1.mono tk₁ (.refl φ) up1) (hI1.at up1) hn fun h₂ e hs₂ he => ?_)
    replace hs₂ : Heap.ExtBut i1 h₁ h₂ := hs₂
    obtain ⟨oe, hoe, hce⟩ := he
    have hz₂ : IsZip h₂ z TI TO .ellipsis := hs₂ _ _ z1 hz₁
    have hez : e ≠ z := fun w => by subst w; rw [hz₂] at hoe; cases hoe; exact absurd (show Value.type "zip" = _ from hce) (by decide)
    refine wpAny_setField_rec hz₂ (by simp) fun h₃ _ hs₃ => fin h₃ e (fun c o w q => ?_) ⟨oe, hs₃.extBut _ _ hez hoe, hce⟩ _
    simp only [List.mem_cons, List.not_mem_nil, or_false, not_or] at w
    exact hs₃.extBut _ _ w.1 (hs₂ _ _ w.2.2.2.1 (hs₁.extBut _ _ w.1 q))
  · refine wpAny_bind (leaf_draw (s := { s with heap := h₁ }) hh₁ x1 (hL1.mono tk₁ (.refl φ) up1) (hI1.at up1) hn1 fun p h₂ t₂ hs₂ hv₂ hl₂ hi₂ => wpAny_pure ?_)
    replace hs₂ : Heap.SameBut i1 h₁ h₂ := hs₂
    obtain ⟨tk₂, hh₂⟩ := mv (t := t₂) hh₁ x1 hs₂ (by obtain ⟨o, _, _, ho, _⟩ := hl₂.obj; exact ⟨o, ho⟩)
    have hTO₂ : IsPair h₂ TO x y := hs₂.extBut _ _ TO1 (hs₁.extBut _ _ (Ne.symm zTO) hTO)
    refine wpAny_bind (wpAny_seqItems hTO₂ rfl ?_)
    refine wpAny_bind (wpAny_updateSeq_pair hTO₂ fun h₃ hTO₃ hs₃ => ?_)
    replace hTO₃ : IsPair h₃ TO p y := hTO₃
    replace hs₃ : Heap.SameBut TO h₂ h₃ := hs₃
    obtain ⟨tk₃, hh₃⟩ := mv (t := t₂) hh₂ xTO hs₃ ⟨_, hTO₃⟩
    refine wpAny_bind (wpAny_letGo (wpAny_pure ?_))
    refine wpAny_bind (wpAny_bind (wpAny_onRaise ?_))
    show wpAny _ _ (Builtin.SmallTypes.nextOf (.ref i2) >>= _) _ _ _
    have up2 : ∀ o, s.heap.get? i2 = some o → h₃.get? i2 = some o := fun o w => hs₃.extBut _ _ (Ne.symm TO2) (hs₂.extBut _ _ (Ne.symm n12) (hs₁.extBut _ _ (Ne.symm z2) w))
    have tk₁₃ : TupK X s.heap h₃ := fun a vs w ha => tk₃ a vs (tk₂ a vs (tk₁ a vs w ha) ha) ha
    refine wpAny_bind (leaf_over (s := { s with heap := h₃, toks := t₂ }) hA hh₃ (hL2.mono tk₁₃ (.refl φ) up2) (hI2.at up2) hn2 fun h₄ e hs₄ he => ?_)
    replace hs₄ : Heap.ExtBut i2 h₃ h₄ := hs₄
    obtain ⟨oe, hoe, hce⟩ := he
    have hz₄ : IsZip h₄ z TI TO .ellipsis := hs₄ _ _ z2 (hs₃.extBut _ _ zTO (hs₂.extBut _ _ z1 hz₁))
    have hez : e ≠ z := fun w => by subst w; rw [hz₄] at hoe; cases hoe; exact absurd (show Value.type "zip" = _ from hce) (by decide)
    refine wpAny_setField_rec hz₄ (by simp) fun h₅ _ hs₅ => fin h₅ e (fun c o w q => ?_) ⟨oe, hs₅.extBut _ _ hez hoe, hce⟩ _
    simp only [List.mem_cons, List.not_mem_nil, or_false, not_or] at w
    exact hs₅.extBut _ _ w.1 (hs₄ _ _ w.2.2.2.2 (hs₃.extBut _ _ w.2.2.1 (hs₂.extBut _ _ w.2.2.2.1 (hs₁.extBut _ _ w.1 q))))

/-- any iterator's step -/
theorem iter_item {X φ : List Addr} {H : List AO} {s : Shared} {src src' : ISrc} {it : Addr} {fp : List Addr} {v : AV} {t : Expr} (hh : Hd G X φ H s) (hfp : ∀ b ∈ fp, b ∈ X) (hI : IRel s.heap X φ src it fp) (hn : inext H src = some (some (v, src'))) (ht : targetOk src t = true) :
    wpAny (model G.prog G.w) A (pyNext (.ref it)) (fun r s₁ => ∃ rv, r = some rv ∧ wpAny (model G.prog G.w) A (letOwnedTupleGo t (.ref it) rv) (fun _ s₂ => ItemAt s X φ src' it fp v rv s₂) noE s₁) noE s := by
  cases hI with
  | leaf hl =>
    refine leafE hn fun w sr' e hz => ?_
    cases hz
    refine wp_mono' (leaf_item hh (hfp it (by simp)) hl e) fun r s₁ ⟨rv, hr, h', t', hs', hk, hv, hl'⟩ => ⟨rv, hr, ?_⟩
    subst hs'
    have fin : ItemAt s X φ (.leaf sr') it [it] v rv { s with heap := h', toks := t' } := ⟨h', t', rfl, fun b o q z => hk b o (by simpa using q) z, hv, .leaf hl'⟩
    rcases Bool.or_eq_true_iff.mp ht with q | q
    · exact letOwned_name q fin
    · refine isSomeE q fun p q => ?_
      rw [tupX_of q]
      exact letOwned_leaf hl' rfl fin
  | enum he hl hi hne =>
    refine enumE hn fun w sr' e hz => ?_
    cases hz
    refine isSomeE ht fun p q => ?_
    rw [tupX_of q]
    exact enum_next hh (hfp _ (by simp)) (hfp _ (by simp)) he hl hi hne e
  | zip hz h1 h2 l1 i1 l2 i2 hd =>
    refine zipE hn fun x a' y b' e e2 hz' => ?_
    cases hz'
    refine isSomeE ht fun p q => ?_
    rw [tupX_of q]
    exact zip_next hh hfp hz h1 h2 l1 i1 l2 i2 hd e e2
theorem iter_over {X φ : List Addr} {H : List AO} {s : Shared} {src : ISrc} {it : Addr} {fp : List Addr} (hA : A.handled = none) (hh : Hd G X φ H s) (hfp : ∀ b ∈ fp, b ∈ X) (hI : IRel s.heap X φ src it fp) (hn : inext H src = some none) :
    wpAny (model G.prog G.w) A (pyNext (.ref it)) (fun r s' => r = none ∧ OverAt s fp s') noE s := by
  cases hI with
  | leaf hl => exact wp_mono' (leaf_end hA hh hl (leafN hn)) fun r s' ⟨hr, h', t', hs', hk⟩ => ⟨hr, h', t', hs', fun b o q z => hk b o (by simpa using q) z⟩
  | enum he hl hi hne => exact wp_mono' (enum_end hA hh he hl hi (enumN hn)) fun r s' ⟨hr, h', t', hs', hk⟩ => ⟨hr, h', t', hs', hk⟩
  | zip hz h1 h2 l1 i1 l2 i2 hd =>
    refine zip_end hA hh hfp hz h1 h2 l1 i1 l2 i2 hd (zipN hn)
end
end Mine
end
section
open PySem PySem.W PyProof.Rows
set_option Elab.async false
set_option maxRecDepth 100000
set_option linter.all false
set_option autoImplicit false
namespace Mine
theorem Sim.less {h : Heap} {X X' φ : List Addr} (k : ∀ x ∈ X, x ∈ X') : Sim h X' φ h X φ := ⟨fun a vs t n => ⟨t, fun q => n (k a q)⟩, fun _ _ e => e⟩
theorem VRel.less {h : Heap} {X X' φ : List Addr} (k : ∀ x ∈ X, x ∈ X') {v : AV} {r : Value} (x : VRel h X' φ v r) : VRel h X φ v r := x.map (.less k)
theorem NsRel.less {h : Heap} {X X' φ : List Addr} (k : ∀ x ∈ X, x ∈ X') {es m} (x : NsRel h X' φ es m) : NsRel h X φ es m := x.map (.less k)
theorem ORel.less {G : Glob} {h : Heap} {X X' φ : List Addr} (k : ∀ x ∈ X, x ∈ X') {ao : AO} {a : Addr} (x : ORel G h X' φ ao a) : ORel G h X φ ao a := x.map (.less k) fun _ e => e
section
variable {G : Glob} {n : Nat} {fr : Fm}
/-- the iterators' places go out of sight -/
theorem over_wd {X φ fp : List Addr} {L : Addr} {S : St} {s s' : Shared} (h : Wd G (fp ++ X) φ L S s) (hd : ∀ b ∈ fp, b ∉ X) (ho : OverAt s fp s') : Wd G X φ L S s' ∧ ∀ b o, s.heap.get? b = some o → b ∉ fp → s'.heap.get? b = some o := by
  obtain ⟨h', t', rfl, hk⟩ := ho
  have tk : TupK (fp ++ X) s.heap h' := fun a vs ⟨o, ho, r⟩ hx => ⟨o, hk a o (fun q => hx (List.mem_append.mpr (.inl q))) ho, r⟩
  have less : ∀ x ∈ X, x ∈ fp ++ X := fun x hx => List.mem_append.mpr (.inr hx)
  have hfφ : ∀ b ∈ fp, b ∉ φ := fun b hb => h.hd.xφ b (List.mem_append.mpr (.inl hb))
  refine ⟨⟨⟨fun p hp => hk _ _ (fun q => h.hd.kX p hp (List.mem_append.mpr (.inl q))) (h.hd.kin p hp), h.hd.kφ, fun p hp q => h.hd.kX p hp (less _ q), h.hd.nd, fun x hx => ?_, fun x hx => h.hd.xφ x (less x hx), h.hd.len, fun i ao e => ?_, h.hd.os, h.hd.gens⟩, h.Lφ, fun q => h.LX (less _ q), h.LK, ?_⟩, fun b o e q => hk b o q e⟩
  · obtain ⟨o, ho⟩ := h.hd.xx x (less x hx)
    exact ⟨o, hk x o (fun q => hd x q hx) ho⟩
  · obtain ⟨a, ha, r⟩ := h.hd.obj i ao e
    exact ⟨a, ha, (r.mono tk (.refl φ) fun o ho => hk a o (fun q => hfφ a q (List.mem_of_getElem? ha)) ho).less less⟩
  · obtain ⟨m, ⟨o, es, ep, hoL, r⟩, nr⟩ := h.loc
    exact ⟨m, ⟨o, es, ep, hk L o (fun q => h.LX (List.mem_append.mpr (.inl q))) hoL, r⟩, (nr.mono tk (.refl φ)).less less⟩
theorem item_wd {X φ fp : List Addr} {L : Addr} {S : St} {s s' : Shared} {src : ISrc} {it : Addr} {v : AV} {rv : Value} (h : Wd G X φ L S s) (hfp : ∀ b ∈ fp, b ∈ X) (ho : ItemAt s X φ src it fp v rv s') :
    Wd G X φ L S s' ∧ VRel s'.heap X φ v rv ∧ IRel s'.heap X φ src it fp ∧ Kp fp s s' := by
  obtain ⟨h', t', rfl, hk, hv, hI⟩ := ho
  obtain ⟨tk, hd⟩ := h.hd.step (t := t') fp (fun b o e q => hk b o q e) (fun x _ q => hI.ex x q) (fun b hb => ⟨h.hd.xφ b (hfp b hb), fun p hp q => h.hd.kX p hp (q ▸ hfp b hb), .inl (hfp b hb)⟩)
  refine ⟨⟨hd, h.Lφ, h.LX, h.LK, ?_⟩, hv, hI, fun b o e q => hk b o q e, fun b o e => ?_⟩
  · obtain ⟨m, ⟨o, es, ep, hoL, r⟩, nr⟩ := h.loc
    exact ⟨m, ⟨o, es, ep, hk L o (fun q => h.LX (hfp L q)) hoL, r⟩, nr.mono tk (.refl φ)⟩
  · by_cases q : b ∈ fp
    · exact hI.ex b q
    · exact ⟨o, hk b o q e⟩
/-- what follows a turn -/
noncomputable def goOn (fl : AFl) (again : Option (AFl × St)) (S : St) : Option (AFl × St) := match fl with
  | .next => again
  | .cont => again
  | .brk => some (.next, S)
  | .ret r => some (.ret r, S)
noncomputable def loopF (Fa : AV → St → Option St) (Fb Fe : St → Option (AFl × St)) : Nat → ISrc → St → Option (AFl × St)
  | 0, _, _ => none
  | k + 1, src, S => turnO (inext S.hp src) (Fe S) fun v src' => (Fa v S).bind fun S₁ => thenO (Fb S₁) fun fl S₂ => goOn fl (loopF Fa Fb Fe k src' S₂) S₂
/-- one turn of the machine's loop -/
theorem for_step {prog : Program} {w : World} {A : Around} {R : Result → Shared → Prop} {target : Expr} {it : Value} {body orelse : List Stmt} {env : Env} {s : Shared}
    (h : wpAny (model prog w) A (pyNext it) (fun r s₁ => match r with
      | none => wpAny (model prog w) A (execs orelse env) (fun f s₃ => R (.ok f) s₃) noE s₁
      | some v => wpAny (model prog w) A (letOwnedTupleGo target it v) (fun _ s₂ => wpAny (model prog w) A (assign target env v) (fun _ s₃ => wpAny (model prog w) A (execs body env) (fun f s₄ => match f with
          | .next | .cont => codeAny (model prog w) A (.forLoop target it body orelse env) R s₄
          | .brk => R (.ok .next) s₄
          | .ret v => R (.ok (.ret v)) s₄) noE s₃) noE s₂) noE s₁) noE s) : codeAny (model prog w) A (.forLoop target it body orelse env) R s := by
  refine codeAny_of_tree ?_
  rw [Around.under_of_weight (c := .forLoop target it body orelse env) rfl]
  show wpAny _ _ ((forTurn target it body orelse env).onRaise (fun x => do noteFrame x env; theTreesLotGoes x)) _ _ s
  refine wpAny_noted (noE_any ?_)
  simp only [forTurn]
  refine wpAny_bind (wpAny_standAt (wpAny_bind (wpAny_onRaise (wpAny_mono h (fun r s₁ h₁ => ?_) fun _ _ h' => h'.elim))))
  cases r with
  | none => exact wpAny_pure ⟨rfl, codeAny_block (noE_any h₁)⟩
  | some v =>
    refine wp_then h₁ fun _ s₂ h₂ => wp_then h₂ fun _ s₃ h₃ => wp_then h₃ fun f s₄ h₄ => ?_
    cases f with
    | next => exact wpAny_pure ⟨rfl, h₄⟩
    | cont => exact wpAny_pure ⟨rfl, h₄⟩
    | brk => exact wpAny_pure h₄
    | ret v => exact wpAny_pure h₄
/-- behind a loop: the iterators' places may be lost -/
structure Lp (φ fp : List Addr) (L : Addr) (s : Shared) (φ' : List Addr) (s' : Shared) : Prop where
  nx : ∃ ψ, φ' = φ ++ ψ ∧ ∀ a ∈ ψ, s.heap.get? a = none ∨ a ∈ fp
  keep : ∀ b o, s.heap.get? b = some o → b ∉ φ → b ≠ L → b ∉ fp → s'.heap.get? b = some o
  stay : ∀ b o, s.heap.get? b = some o → b ∉ fp → ∃ o', s'.heap.get? b = some o'
theorem Lp.cons {φ φ₁ φ' fp : List Addr} {L : Addr} {s s₁ s' : Shared} (n : Nx φ s φ₁) (k : Kp (φ ++ (L :: fp)) s s₁) (l : Lp φ₁ fp L s₁ φ' s') : Lp φ fp L s φ' s' := by
  obtain ⟨ψ₁, rfl, h₁⟩ := n
  obtain ⟨⟨ψ₂, rfl, h₂⟩, lk, ls⟩ := l
  refine ⟨⟨ψ₁ ++ ψ₂, by simp, fun a ha => ?_⟩, fun b o e h1 h2 h3 => ?_, fun b o e h => ?_⟩
  · rcases List.mem_append.mp ha with q | q
    · exact .inl (h₁ a q)
    · exact (h₂ a q).imp_left fun z => none_of_stay k.stay z
  · refine lk b o (k.keep b o e fun q => ?_) (fun q => ?_) h2 h3
    · rcases List.mem_append.mp q with q | q
      · exact h1 q
      · rcases List.mem_cons.mp q with q | q
        · exact h2 q
        · exact h3 q
    · rcases List.mem_append.mp q with q | q
      · exact h1 q
      · have := h₁ b q; rw [e] at this; cases this
  · obtain ⟨o₁, e₁⟩ := k.stay b o e
    exact ls b o₁ e₁ h
theorem Lp.over {φ φ' fp : List Addr} {L : Addr} {s s₁ s' : Shared} (hk : ∀ b o, s.heap.get? b = some o → b ∉ fp → s₁.heap.get? b = some o) (n : Nx φ s₁ φ') (k : Kp (φ ++ [L]) s₁ s') : Lp φ fp L s φ' s' := by
  obtain ⟨ψ, rfl, h⟩ := n
  refine ⟨⟨ψ, rfl, fun a ha => ?_⟩, fun b o e h1 h2 h3 => k.keep b o (hk b o e h3) fun q => ?_, fun b o e q => k.stay b o (hk b o e q)⟩
  · by_cases q : a ∈ fp
    · exact .inr q
    · left
      cases e : s.heap.get? a with
      | none => rfl
      | some o => have := hk a o e q; rw [h a ha] at this; cases this
  · rcases List.mem_append.mp q with q | q
    · exact h1 q
    · simp at q; exact h2 q
theorem Lp.step {φ φ' fp : List Addr} {L : Addr} {s s' : Shared} (n : Nx φ s φ') (k : Kp (φ ++ (L :: fp)) s s') : Lp φ fp L s φ' s' :=
  let ⟨ψ, e, h⟩ := n; ⟨⟨ψ, e, fun a ha => .inl (h a ha)⟩, fun b o e h1 h2 h3 => k.keep b o e fun q => by
    rcases List.mem_append.mp q with q | q
    · exact h1 q
    · rcases List.mem_cons.mp q with q | q
      · exact h2 q
      · exact h3 q, fun b o e _ => k.stay b o e⟩
noncomputable def LoopEnd (G : Glob) (X φ fp : List Addr) (L : Addr) (s : Shared) (a : AFl) (S' : St) (R : Result → Shared → Prop) : Prop := ∀ f s' φ', Lp φ fp L s φ' s' → Wd G X φ' L S' s' → FlRel s'.heap X φ' a f → R (.ok f) s'
theorem Wd.drop {X φ fp : List Addr} {L : Addr} {S : St} {s : Shared} (h : Wd G (fp ++ X) φ L S s) (hd : ∀ b ∈ fp, b ∉ X) : Wd G X φ L S s := (over_wd h hd ⟨s.heap, s.toks, rfl, fun _ _ _ e => e⟩).1
theorem FlRel.less {h : Heap} {X X' φ : List Addr} (k : ∀ x ∈ X, x ∈ X') {a : AFl} {f : Flow} (x : FlRel h X' φ a f) : FlRel h X φ a f := by
  cases a <;> cases f <;> first | exact x | exact VRel.less k x
theorem targetOk_next {H : List AO} {src src' : ISrc} {v : AV} {target : Expr} (e : inext H src = some (some (v, src'))) (ht : targetOk src target = true) : targetOk src' target = true := by
  cases src with
  | leaf sr => exact leafE e fun w s' _ hz => by cases hz; exact ht
  | enum m sr => exact enumE e fun w s' _ hz => by cases hz; exact ht
  | zip sa sb => exact zipE e fun x a' y b' _ _ hz => by cases hz; exact ht
theorem for_turn {target : Expr} {body orelse : List Stmt} {Fa : AV → St → Option St} {Fb : St → Option (AFl × St)} (ha : AsOk G n fr (fun env v => assign target env v) Fa) (hb : BdOk G n fr body Fb) {A : Around} (hR : Room n A) {X fp : List Addr} {env : Env} {it : Addr} {R : Result → Shared → Prop} (hdis : ∀ b ∈ fp, b ∉ X)
    {src' : ISrc} {v : AV} {S S₁ S₂ S' : St} {fl a : AFl} {φ : List Addr} {s : Shared} {T : Nat} {again : Option (AFl × St)} (hT : T ≤ s.toks) (hE : EnvOk fr env φ) (hW : Wd G (fp ++ X) φ env.locals S s)
    (step : wpAny (model G.prog G.w) A (pyNext (.ref it)) (fun r s₁ => ∃ rv, r = some rv ∧ wpAny (model G.prog G.w) A (letOwnedTupleGo target (.ref it) rv) (fun _ s₂ => ItemAt s (fp ++ X) φ src' it fp v rv s₂) noE s₁) noE s)
    (e1 : Fa v S = some S₁) (e2 : Fb S₁ = some (fl, S₂)) (hg : goOn fl again S₂ = some (a, S')) (hr : LoopEnd G X φ fp env.locals s a S' R)
    (rec : ∀ φ₄ s₄, T ≤ s₄.toks → EnvOk fr env φ₄ → Wd G (fp ++ X) φ₄ env.locals S₂ s₄ → IRel s₄.heap (fp ++ X) φ₄ src' it fp → again = some (a, S') → LoopEnd G X φ₄ fp env.locals s₄ a S' R → codeAny (model G.prog G.w) A (.forLoop target (.ref it) body orelse env) R s₄) :
    codeAny (model G.prog G.w) A (.forLoop target (.ref it) body orelse env) R s := by
  have hfp : ∀ b ∈ fp, b ∈ fp ++ X := fun b hb => List.mem_append.mpr (.inl hb)
  have less : ∀ x ∈ X, x ∈ fp ++ X := fun x hx => List.mem_append.mpr (.inr hx)
  refine for_step (wpAny_mono (wpAny_toks_of hT step) (fun r s₁ hz => ?_) fun _ _ z => z.2)
  obtain ⟨hT₁, rv, hrv, hlet⟩ := hz
  subst hrv
  refine wpAny_mono (wpAny_toks_of hT₁ hlet) (fun _ s₂ hz => ?_) fun _ _ z => z.2
  obtain ⟨hT₂, hitem⟩ := hz
  obtain ⟨hW₂, hv₂, hI₂, hk₂⟩ := item_wd hW hfp hitem
  refine wpAny_mono (wpAny_toks_of hT₂ (ha A (fp ++ X) φ env s₂ S _ rv S₁ hR hE hW₂ hv₂ e1)) (fun _ s₃ hz => ?_) fun _ _ z => z.2
  obtain ⟨hT₃, φ₃, p₃⟩ := hz
  refine wpAny_mono (wpAny_toks_of hT₃ (hb A (fp ++ X) φ₃ env s₃ S₁ fl S₂ hR (hE.pre p₃.nx.pre) p₃.wd e2)) (fun f s₄ hz => ?_) fun _ _ z => z.2
  obtain ⟨hT₄, φ₄, p₄, hf⟩ := hz
  have pp := p₃.trans p₄
  have nx : Nx φ s φ₄ := Nx.trans (.refl φ s) hk₂ pp.nx
  have kp : Kp (φ ++ (env.locals :: fp)) s s₄ := by
    refine Kp.trans (hk₂.more fun b hb => by simp [hb]) pp.kp fun b o e hb => ?_
    rcases List.mem_append.mp hb with q | q
    · exact List.mem_append.mpr (.inl q)
    · simp at q; subst q; simp
  have hI₄ : IRel s₄.heap (fp ++ X) φ₄ src' it fp := hI₂.mono (pp.tupK hW₂) pp.nx.pre fun b hb o ho => pp.kp.keep b o ho fun q => by
    rcases List.mem_append.mp q with q | q
    · exact hW.hd.xφ b (hfp b hb) q
    · simp at q; subst q; exact hW.LX (hfp _ hb)
  have go : again = some (a, S') → codeAny (model G.prog G.w) A (.forLoop target (.ref it) body orelse env) R s₄ := fun h => rec φ₄ s₄ hT₄ (hE.pre pp.nx.pre) pp.wd hI₄ h fun f s' φ' l w r => hr f s' φ' (.cons nx kp l) w r
  cases fl with
  | next => cases f <;> first | exact hf.elim | exact go hg
  | cont => cases f <;> first | exact hf.elim | exact go hg
  | brk =>
    cases hg
    cases f <;> first | exact hf.elim | exact hr .next s₄ φ₄ (.step nx kp) (pp.wd.drop hdis) trivial
  | ret v =>
    cases hg
    cases f <;> first | exact hf.elim | exact hr _ s₄ φ₄ (.step nx kp) (pp.wd.drop hdis) (VRel.less less hf)
theorem for_loop {target : Expr} {body orelse : List Stmt} {Fa : AV → St → Option St} {Fb Fe : St → Option (AFl × St)} (ha : AsOk G n fr (fun env v => assign target env v) Fa) (hb : BdOk G n fr body Fb) (he : BdOk G n fr orelse Fe) {A : Around} (hR : Room n A) {X fp : List Addr} {env : Env} {it : Addr} {R : Result → Shared → Prop} (hdis : ∀ b ∈ fp, b ∉ X) (k : Nat) :
    ∀ (src : ISrc) (S S' : St) (a : AFl) (φ : List Addr) (s : Shared), targetOk src target = true → EnvOk fr env φ → Wd G (fp ++ X) φ env.locals S s → IRel s.heap (fp ++ X) φ src it fp → loopF Fa Fb Fe k src S = some (a, S') →
      LoopEnd G X φ fp env.locals s a S' R → codeAny (model G.prog G.w) A (.forLoop target (.ref it) body orelse env) R s := by
  induction k with
  | zero => intro src S S' a φ s ht hE hW hI h hr; cases h
  | succ k ih =>
    intro src S S' a φ s ht hE hW hI h hr
    have hfp : ∀ b ∈ fp, b ∈ fp ++ X := fun b hb => List.mem_append.mpr (.inl hb)
    refine turnE h (fun e h => ?_) fun v src' e h => bindE h fun S₁ e1 h => thenE h fun fl S₂ e2 hg => ?_
    · refine for_step (wp_mono' (iter_over hR.handled hW.hd hfp hI e) fun r s₁ ⟨hrn, ho⟩ => ?_)
      subst hrn
      obtain ⟨hW₁, hk₁⟩ := over_wd hW hdis ho
      refine wp_mono' (he A X φ env s₁ S a S' hR hE hW₁ h) fun f s₂ ⟨φ₂, p₂, hf⟩ => ?_
      exact hr f s₂ φ₂ (.over hk₁ p₂.nx p₂.kp) p₂.wd hf
    · have ht' : targetOk src' target = true := targetOk_next e ht
      exact for_turn ha hb hR hdis (Nat.zero_le _) hE hW (iter_item hW.hd hfp hI e ht) e1 e2 hg hr fun φ₄ s₄ _ hE₄ hW₄ hI₄ h hr₄ => ih src' S₂ S' a φ₄ s₄ ht' hE₄ hW₄ hI₄ h hr₄
end
end Mine
end
section
open PySem PySem.W PyProof.Rows
set_option Elab.async false
set_option maxRecDepth 100000
set_option linter.all false
set_option autoImplicit false
namespace Mine
theorem Sim.more {h h' : Heap} {X fp φ : List Addr} (k : ∀ b o, h.get? b = some o → h'.get? b = some o) (hf : ∀ b ∈ fp, h.get? b = none) : Sim h X φ h' (fp ++ X) φ :=
  ⟨fun a vs t n => ⟨t.elim fun o z => ⟨o, k _ _ z.1, z.2⟩, fun q => by
    rcases List.mem_append.mp q with q | q
    · obtain ⟨o, ho, _⟩ := t; rw [hf a q] at ho; cases ho
    · exact n q⟩, fun _ _ e => e⟩
theorem VRel.more {h h' : Heap} {X fp φ : List Addr} (k : ∀ b o, h.get? b = some o → h'.get? b = some o) (hf : ∀ b ∈ fp, h.get? b = none) {v : AV} {r : Value} (x : VRel h X φ v r) : VRel h' (fp ++ X) φ v r := x.map (.more k hf)
theorem NsRel.more {h h' : Heap} {X fp φ : List Addr} (k : ∀ b o, h.get? b = Option.some o → h'.get? b = Option.some o) (hf : ∀ b ∈ fp, h.get? b = Option.none) {es m} (x : NsRel h X φ es m) : NsRel h' (fp ++ X) φ es m := x.map (.more k hf)
theorem ORel.more {G : Glob} {h h' : Heap} {X fp φ : List Addr} (k : ∀ b o, h.get? b = some o → h'.get? b = some o) (hf : ∀ b ∈ fp, h.get? b = none) {ao : AO} {a : Addr} (x : ORel G h X φ ao a) : ORel G h' (fp ++ X) φ ao a := x.map (.more k hf) fun _ e => k _ _ e
section
variable {G : Glob} {n : Nat} {fr : Fm}
theorem Wd.grow {X φ fp : List Addr} {L : Addr} {S : St} {s : Shared} {h' : Heap} {t : Nat} (h : Wd G X φ L S s) (k : ∀ b o, s.heap.get? b = some o → h'.get? b = some o) (hf : ∀ b ∈ fp, s.heap.get? b = none) (he : ∀ b ∈ fp, ∃ o, h'.get? b = some o) :
    Wd G (fp ++ X) φ L S { s with heap := h', toks := t } := by
  have ne : ∀ {b : Addr} {o : Obj}, s.heap.get? b = some o → b ∉ fp := fun e q => by rw [hf _ q] at e; cases e
  refine ⟨⟨fun p hp => k _ _ (h.hd.kin p hp), h.hd.kφ, fun p hp q => ?_, h.hd.nd, fun x hx => ?_, fun x hx => ?_, h.hd.len, fun i ao e => ?_, h.hd.os, h.hd.gens⟩, h.Lφ, fun q => ?_, h.LK, ?_⟩
  · rcases List.mem_append.mp q with q | q
    · exact ne (h.hd.kin p hp) q
    · exact h.hd.kX p hp q
  · rcases List.mem_append.mp hx with q | q
    · exact he x q
    · obtain ⟨o, ho⟩ := h.hd.xx x q; exact ⟨o, k _ _ ho⟩
  · rcases List.mem_append.mp hx with q | q
    · intro z; obtain ⟨o, ho, _⟩ := h.hd.mem z; exact ne ho q
    · exact h.hd.xφ x q
  · obtain ⟨a, ha, r⟩ := h.hd.obj i ao e
    exact ⟨a, ha, r.more k hf⟩
  · obtain ⟨o, ho, _⟩ := h.Lex
    rcases List.mem_append.mp q with q | q
    · exact ne ho q
    · exact h.LX q
  · obtain ⟨m, ⟨o, es, ep, hoL, r⟩, nr⟩ := h.loc
    exact ⟨m, ⟨o, es, ep, k _ _ hoL, r⟩, nr.more k hf⟩
/-- an iterator has been made -/
noncomputable def IterStart (G : Glob) (X φ : List Addr) (L : Addr) (s : Shared) (src : ISrc) (S' : St) (r : Value) (s' : Shared) : Prop :=
  ∃ φ' it fp, r = .ref it ∧ Nx φ s φ' ∧ Wd G (fp ++ X) φ' L S' s' ∧ Kp (φ ++ [L]) s s' ∧ IRel s'.heap (fp ++ X) φ' src it fp ∧ (∀ b ∈ fp, s.heap.get? b = none) ∧ (∀ b ∈ fp, b ∉ X)
noncomputable def ItOk (G : Glob) (n : Nat) (fr : Fm) (iter : Expr) (Fi : St → Option (ISrc × St)) : Prop :=
  ∀ (A : Around) (X φ : List Addr) (env : Env) (s : Shared) (S : St) (src : ISrc) (S' : St), Room n A → EnvOk fr env φ → Wd G X φ env.locals S s → Fi S = some (src, S') →
    wpAny (model G.prog G.w) A (eval iter env) (fun x s₁ => wpAny (model G.prog G.w) A (pyIter x) (IterStart G X φ env.locals s src S') noE s₁) noE s
theorem IterStart.of {X φ φ₁ : List Addr} {L : Addr} {s s₁ : Shared} {S₁ : St} {src : ISrc} {S' : St} {r : Value} {s' : Shared} (p : Pt G X φ L s S₁ φ₁ s₁) (h : IterStart G X φ₁ L s₁ src S' r s') : IterStart G X φ L s src S' r s' := by
  obtain ⟨φ', it, fp, hr, nx, wd, kp, hI, hf, hX⟩ := h
  exact ⟨φ', it, fp, hr, p.nx.trans p.kp nx, wd, Kp.next p.nx p.kp kp, hI, fun b hb => none_of_stay p.kp.stay (hf b hb), hX⟩
theorem IterStart.mk' {X φ fp : List Addr} {L : Addr} {S : St} {s : Shared} {h' : Heap} {t : Nat} {src : ISrc} {it : Addr} (h : Wd G X φ L S s) (k : ∀ b o, s.heap.get? b = some o → h'.get? b = some o) (hf : ∀ b ∈ fp, s.heap.get? b = none)
    (hI : (∀ v r, VRel s.heap X φ v r → VRel h' (fp ++ X) φ v r) → IRel h' (fp ++ X) φ src it fp) : IterStart G X φ L s src S (.ref it) { s with heap := h', toks := t } := by
  have hI' := hI fun v r x => x.more k hf
  refine ⟨φ, it, fp, rfl, .refl _ _, h.grow k hf hI'.ex, .ofAll k, hI', hf, fun b hb q => ?_⟩
  obtain ⟨o, ho⟩ := h.hd.xx b q
  rw [hf b hb] at ho; cases ho
noncomputable def srcOf (H : List AO) : AV → Option Src
  | .obj i => match H[i]? with
    | some (.list _) => some (.list i 0)
    | _ => none
  | .tup l => some (.seq l)
  | .str x => if x.cps.all (· < 128) then some (.seq (x.cps.toList.map chrA)) else none
  | _ => none
theorem iter_of {A : Around} {X φ : List Addr} {L : Addr} {S : St} {s : Shared} {v : AV} {r : Value} {src : Src} (h : Wd G X φ L S s) (hv : VRel s.heap X φ v r) (e : srcOf S.hp v = some src) :
    wpAny (model G.prog G.w) A (pyIter r) (IterStart G X φ L s (.leaf src) S) noE s := by
  have fn : ∀ b ∈ [s.heap.objs.size], s.heap.get? b = none := fun b hb => by simp at hb; subst hb; exact fresh_none
  have pk : ∀ (o : Obj) (b : Addr) (o' : Obj), s.heap.get? b = some o' → (s.heap.push o).get? b = some o' := fun o b o' e => Heap.get?_push_of_some _ e
  cases hv with
  | obj ha =>
    simp only [srcOf] at e
    split at e
    · rename_i l hl
      cases e
      obtain ⟨a', ha', vs, m, ho, hvs⟩ := h.hd.obj _ _ hl
      rw [ha] at ha'; cases ha'
      refine wpAny_pyIter_list ⟨_, ho, rfl, m, rfl⟩ ?_
      exact IterStart.mk' (t := s.toks) h (pk _) fn fun _ => .leaf (.list ha ⟨_, Heap.get?_push_size _ rfl, rfl, rfl⟩)
    · cases e
  | tup hx ht hvs =>
    simp only [srcOf] at e
    cases e
    refine wpAny_pyIter_tuple ht ?_
    refine IterStart.mk' (t := s.toks) h (pk _) fn fun hm => .leaf ?_
    have := hm _ _ (.tup hx ht hvs)
    cases this with
    | tup hx' ht' hvs' => exact Leaf.tup (i := 0) ⟨_, Heap.get?_push_size _ rfl, rfl, rfl⟩ hx' ht' hvs'
  | str x t =>
    simp only [srcOf] at e
    refine iteE e fun ha e => ?_
    cases e
    refine wpAny_pyIter_ascii ha ?_
    exact IterStart.mk' (t := s.toks) h (pk _) fn fun _ => .leaf (Leaf.str (i := 0) ⟨_, Heap.get?_push_size _ rfl, rfl, rfl⟩)
  | _ => simp [srcOf] at e
noncomputable def valIt (F : St → Option (AV × St)) (S : St) : Option (ISrc × St) := thenO (F S) fun v S₁ => (srcOf S₁.hp v).map (.leaf ·, S₁)
theorem itok_val {e : Expr} {F : St → Option (AV × St)} (h : EOk G n fr e F) : ItOk G n fr e (valIt F) := by
  intro A X φ env s S src S' hR hE hW q
  first | refine thenE q fun v S₁ e1 q => ?_ | refine map2E q fun v S₁ e1 q => ?_
  first | refine bindE q fun sr e2 q => ?_ | refine mapE q fun sr e2 q => ?_
  cases q
  refine wp_mono' (h A X φ env s S v S' hR hE hW e1) fun r s₁ ⟨φ₁, p₁, hr⟩ => ?_
  exact wp_mono' (iter_of p₁.wd hr e2) fun _ _ z => .of p₁ z
/-- a type's call with arguments, whose object is walked at once -/
theorem itok_call {mg mb : Names} (K : GOk G mg mb) {g : Str} {gp pos : Pos} {T : String} {es : List Expr} {Fa : St → Option (List AV × St)} {k : List AV → List AO → Option ISrc} (ha : EsOk G n fr es Fa) (hst : ∀ env, (starEach es env).any (·.1) = false)
    (hc : (g == ("__classdict__" : Str)) = false) (hd : (g == ("__debug__" : Str)) = false) (hg : fkind fr g = some .globalImplicit) (hv : gval mg mb g = some (.type T))
    (hcall : ∀ (A : Around) (X φ : List Addr) (L : Addr) (S : St) (s : Shared) (l : List AV) (vs : List Value) (src : ISrc), Room n A → Wd G X φ L S s → VRels s.heap X φ l vs → k l S.hp = some src →
      wpAny (model G.prog G.w) A (call (.type T) vs []) (fun x s₁ => wpAny (model G.prog G.w) A (pyIter x) (IterStart G X φ L s src S) noE s₁) noE s) :
    ItOk G n fr (.Call (.Name g gp) es [] pos) fun S => thenO (Fa S) fun l S₁ => (k l S₁.hp).map (·, S₁) := by
  intro A X φ env s S src S' hR hE hW q
  dsimp only at q
  first | refine thenE q fun l S₁ e1 q => ?_ | refine map2E q fun l S₁ e1 q => ?_
  first | refine bindE q fun sr e2 q => ?_ | refine mapE q fun sr e2 q => ?_
  cases q
  show wpAny _ A (eval (.Call (.Name g gp) es [] pos) env) _ _ _
  rw [arm_eval_Call_Name']
  have en : nameF mg mb fr g S = some (.c (.type T), S) := by rw [nameF_glob hg, hv]; rfl
  refine wp_then (eok_name K hc hd A X φ env s S _ S hR hE hW en) fun r s₀ ⟨φ₀, p₀, hr⟩ => ?_
  cases hr
  refine callWith_gen (kws := []) (noStar es hst pos env) rfl (wp_mono' (ha pos A X φ₀ env s₀ S l S' hR (hE.pre p₀.nx.pre) p₀.wd e1) fun vs s₁ ⟨φ₁, p₁, hvs⟩ => ?_)
  refine wpAny_evalAll_nil ?_
  refine wpAny_pure ⟨.inr (.inl rfl), ?_⟩
  exact wp_mono' (hcall A X φ₁ env.locals S' s₁ l vs src hR p₁.wd hvs e2) fun x s₂ h₂ => wp_mono' h₂ fun _ _ z => .of (p₀.trans p₁) z
noncomputable def forF (k : Nat) (Fi : St → Option (ISrc × St)) (Fa : AV → St → Option St) (Fb Fe : St → Option (AFl × St)) (target : Expr) (S : St) : Option (AFl × St) := thenO (Fi S) fun src S₁ => if targetOk src target then loopF Fa Fb Fe k src S₁ else none
theorem Lp.pt {X φ φ₁ φ' fp : List Addr} {L : Addr} {s s₂ s' : Shared} {S' : St} (nx : Nx φ s φ₁) (kp : Kp (φ ++ [L]) s s₂) (hf : ∀ b ∈ fp, s.heap.get? b = none) (l : Lp φ₁ fp L s₂ φ' s') (w : Wd G X φ' L S' s') : Pt G X φ L s S' φ' s' := by
  refine ⟨?_, w, fun b o e hb => ?_, fun b o e => ?_⟩
  · obtain ⟨ψ₁, rfl, h₁⟩ := nx
    obtain ⟨ψ₂, rfl, h₂⟩ := l.nx
    refine ⟨ψ₁ ++ ψ₂, by simp, fun b hb => ?_⟩
    rcases List.mem_append.mp hb with z | z
    · exact h₁ b z
    · rcases h₂ b z with z | z
      · exact none_of_stay kp.stay z
      · exact hf b z
  · refine l.keep b o (kp.keep b o e hb) (fun z => ?_) (fun z => hb (by simp [z])) fun z => by rw [hf b z] at e; cases e
    obtain ⟨ψ₁, rfl, h₁⟩ := nx
    rcases List.mem_append.mp z with z | z
    · exact hb (List.mem_append.mpr (.inl z))
    · rw [h₁ b z] at e; cases e
  · obtain ⟨o₁, e₁⟩ := kp.stay b o e
    exact l.stay b o₁ e₁ fun z => by rw [hf b z] at e; cases e
theorem sok_for {k : Nat} {target iter : Expr} {body orelse : List Stmt} {pos : Pos} {Fi : St → Option (ISrc × St)} {Fa : AV → St → Option St} {Fb Fe : St → Option (AFl × St)} (hi : ItOk G n fr iter Fi) (ha : AsOk G n fr (fun env v => assign target env v) Fa) (hb : BdOk G n fr body Fb) (he : BdOk G n fr orelse Fe)
    (hs : ∀ env x, foldedSetIterable iter env x = pure x) : SOk G n fr (.For target iter body orelse pos) (forF k Fi Fa Fb Fe target) := by
  intro A X φ env s S a S' hR hE hW q
  first | refine thenE q fun src S₁ e1 q => ?_ | refine map2E q fun src S₁ e1 q => ?_
  refine iteE q fun ht q => ?_
  refine wpAny_For (wpAny_mono (hi A X φ env s S src S₁ hR hE hW e1) (fun x s₁ h₁ => wpAny_mono h₁ (fun r s₂ h₂ => ?_) fun _ _ z => z) fun _ _ z => z) (hs env)
  obtain ⟨φ₁, it, fp, rfl, nx, wd, kp, hI, hf, hX⟩ := h₂
  exact for_loop ha hb he hR hX k src S₁ S' a φ₁ s₂ ht (hE.pre nx.pre) wd hI q fun f s' φ' l w r => ⟨φ', Lp.pt nx kp hf l w, r⟩
end
end Mine
end
section
open PySem PySem.W PyProof.Rows
set_option Elab.async false
set_option maxRecDepth 100000
set_option linter.all false
set_option autoImplicit false
namespace Mine
noncomputable abbrev zSL1 (h : Heap) (x : Str) (t : Tok) : Heap := h.push { cls := .type "str_ascii_iterator", data := .fields #[.str x t, .int 0 0] }
noncomputable abbrev zSL2 (h : Heap) (x : Str) (t : Tok) (l : Addr) : Heap := (zSL1 h x t).push { cls := .type "list_iterator", data := .fields #[.ref l, .int 0 0] }
noncomputable abbrev zSL3 (h : Heap) (x : Str) (t : Tok) (l : Addr) : Heap := (zSL2 h x t l).push { cls := .type "tuple", data := .seq #[.ref h.objs.size, .ref (zSL1 h x t).objs.size] }
noncomputable abbrev zSL4 (h : Heap) (x : Str) (t : Tok) (l : Addr) : Heap := (zSL3 h x t l).push { cls := .type "tuple", data := .seq #[.none, .none] }
noncomputable abbrev zSL5 (h : Heap) (x : Str) (t : Tok) (l : Addr) : Heap := (zSL4 h x t l).push { cls := .type "zip", data := .fields #[.none, .bool false, .bool false, .ref (zSL2 h x t l).objs.size, .ref (zSL3 h x t l).objs.size] }
set_option maxHeartbeats 4000000 in
theorem meets_zip_SL (x : Str) (t : Tok) (l : Addr) (ys : Array Value) (ha : x.cps.all (· < 128) = true) :
    Meets (Builtin.«zip.__new__» ⟨[.type "zip", .str x t, .ref l], []⟩) (fun _ R s => s.heap.IsList l ys ∧
      R (.ok (.ret (.ref (zSL4 s.heap x t l).objs.size))) { s with heap := zSL5 s.heap x t l }) :=
  .of_wp fun prog w A R s h => by
    obtain ⟨hp, g, d, tk, os⟩ := s; obtain ⟨hl, h⟩ := h
    have hsub := sub_zip
    have hL : Heap.IsList (Shared.heap ⟨hp.push { cls := .type "str_ascii_iterator", data := .fields #[.str x t, .int 0 0] }, g, d, tk, os⟩) l ys := Heap.IsList.push hl _
    wp_walk using wpAny_pyIter_ascii ha, wpAny_pyIter_list hL
    exact ⟨_, rfl, h⟩
section
variable {G : Glob} {n : Nat} {fr : Fm}
theorem nodup5 (m : Nat) : ([m + 4, m + 2, m + 3, m, m + 1] : List Nat).Nodup := by
  simp only [List.nodup_cons, List.mem_cons, List.not_mem_nil, or_false, not_or, List.nodup_nil, and_true]
  have e : ∀ a b : Nat, (a = b) = (a = b) := fun _ _ => rfl
  refine ⟨⟨?_, ?_, ?_, ?_⟩, ⟨?_, ?_, ?_⟩, ⟨?_, ?_⟩, ?_⟩ <;> (try simp) <;> omega
theorem none_ge {h : Heap} {a : Addr} (e : h.objs.size ≤ a) : h.get? a = none := by
  cases q : h.get? a with
  | none => rfl
  | some o => exact absurd (Heap.lt_size q) (Nat.not_lt.mpr e)
noncomputable def rangeK (l : List AV) (_ : List AO) : Option ISrc := l1 AV.int? (fun i => if 0 ≤ i ∧ i ≤ 4096 then some (.leaf (.seq ((List.range i.toNat).map fun (j : Nat) => .int (0 + j)))) else none) l
theorem call_range {A : Around} {X φ : List Addr} {L : Addr} {S : St} {s : Shared} {l : List AV} {vs : List Value} {src : ISrc} (hW : Wd G X φ L S s) (hv : VRels s.heap X φ l vs) (e : rangeK l S.hp = some src) :
    wpAny (model G.prog G.w) A (call (.type "range") vs []) (fun x s₁ => wpAny (model G.prog G.w) A (pyIter x) (IterStart G X φ L s src S) noE s₁) noE s :=
  l1E e hv fun a i ra e1 e2 e3 h1 => iteE e2 fun hi e4 => by
    subst e3
    cases e4
    rw [AV.int_of e1] at h1
    obtain ⟨t, rfl⟩ := h1.int_inv
    obtain ⟨m, rfl⟩ : ∃ m : Nat, i = m := ⟨i.toNat, by omega⟩
    refine call_range_1 ?_
    have hm : (m : Int) ≤ 4096 := hi.2
    refine wpAny_pyIter_range (IsRange.new ..) (small_one (by decide) (by decide) (by omega) (by omega)) ?_
    have hr : Builtin.Range.rangeSize 0 (m : Int) 1 = m := by rw [rangeSize_one]; split <;> omega
    rw [hr]
    simp only [Int.toNat_natCast]
    have sz : (s.heap.push { cls := .type "range", data := .fields #[.int 0 s.toks, .int (m : Int) t, .int 1 (s.toks + 1)] }).objs.size = s.heap.objs.size + 1 := Heap.size_push ..
    refine IterStart.mk' (t := s.toks + 1 + 1) hW (fun b o q => Heap.get?_push_of_some _ (Heap.get?_push_of_some _ q)) (fp := [(s.heap.push { cls := .type "range", data := .fields #[.int 0 s.toks, .int (m : Int) t, .int 1 (s.toks + 1)] }).objs.size]) (fun b hb => ?_) fun _ => .leaf (.range (Heap.get?_push_size _ rfl))
    simp only [List.mem_cons, List.not_mem_nil, or_false] at hb
    exact none_ge (by rw [hb, sz]; exact Nat.le_succ _)
noncomputable def enumK (l : List AV) (_ : List AO) : Option ISrc := l1 AV.str? (fun x => if x.cps.all (· < 128) then some (.enum 0 (.seq (x.cps.toList.map chrA))) else none) l
theorem call_enum {A : Around} {X φ : List Addr} {L : Addr} {S : St} {s : Shared} {l : List AV} {vs : List Value} {src : ISrc} (hW : Wd G X φ L S s) (hv : VRels s.heap X φ l vs) (e : enumK l S.hp = some src) :
    wpAny (model G.prog G.w) A (call (.type "enumerate") vs []) (fun x s₁ => wpAny (model G.prog G.w) A (pyIter x) (IterStart G X φ L s src S) noE s₁) noE s :=
  l1E e hv fun a x ra e1 e2 e3 h1 => iteE e2 fun ha e4 => by
    subst e3
    cases e4
    rw [AV.str_of e1] at h1
    obtain ⟨t, rfl⟩ := h1.str_inv
    refine call_enumerate_str fun h' he hit hsz hk => ?_
    refine wpAny_pyIter_enum he ?_
    have hit' : h'.IsStrIter s.heap.objs.size "str_ascii_iterator" x t 0 := by unfold strIterType at hit; rw [ha] at hit; exact hit
    refine IterStart.mk' (t := s.toks) hW hk (fp := [s.heap.objs.size + 1, s.heap.objs.size]) (fun b hb => ?_) fun _ => ?_
    · simp at hb; rcases hb with rfl | rfl <;> exact none_ge (by omega)
    · exact .enum (k := 0) he (Leaf.str (i := 0) hit') (.inl ⟨_, _, _, hit'⟩) (Nat.succ_ne_self _)
noncomputable def zipK (l : List AV) (H : List AO) : Option ISrc := (l2 AV.obj? AV.obj? (fun i j => (listAt H i).bind fun _ => (listAt H j).bind fun _ => some (.zip (.list i 0) (.list j 0))) l).or
  (l2 AV.str? AV.obj? (fun x j => (listAt H j).bind fun _ => if x.cps.all (· < 128) then some (.zip (.seq (x.cps.toList.map chrA)) (.list j 0)) else none) l)
theorem call_zip {A : Around} {X φ : List Addr} {L : Addr} {S : St} {s : Shared} {l : List AV} {vs : List Value} {src : ISrc} (hW : Wd G X φ L S s) (hv : VRels s.heap X φ l vs) (e : zipK l S.hp = some src) :
    wpAny (model G.prog G.w) A (call (.type "zip") vs []) (fun x s₁ => wpAny (model G.prog G.w) A (pyIter x) (IterStart G X φ L s src S) noE s₁) noE s := by
  have hf : ∀ b ∈ [s.heap.objs.size + 4, s.heap.objs.size + 2, s.heap.objs.size + 3, s.heap.objs.size, s.heap.objs.size + 1], s.heap.get? b = none := fun b hb => by
    simp at hb; rcases hb with rfl | rfl | rfl | rfl | rfl <;> exact none_ge (by omega)
  refine orE e (fun e => l2E e hv fun a b i j ra rb e1 e2 e3 ev h1 h2 => bindE e3 fun li hi e3 => bindE e3 fun lj hj e3 => ?_) (fun e => l2E e hv fun a b x j ra rb e1 e2 e3 ev h1 h2 => bindE e3 fun lj hj e3 => iteE e3 fun ha e3 => ?_)
  · cases e3
    subst ev
    rw [AV.obj_of e1] at h1
    rw [AV.obj_of e2] at h2
    refine hW.hd.listE hi h1 fun a vsa na ea hφa hoa hva => hW.hd.listE hj h2 fun b vsb nb eb hφb hob hvb => ?_
    subst ea eb
    refine call_zip_2 ⟨_, hoa, rfl, na, rfl⟩ ⟨_, hob, rfl, nb, rfl⟩ fun h' hz hTI hTO i1 i2 hsz hk => ?_
    refine wpAny_pyIter_zip hz ?_
    exact IterStart.mk' (t := s.toks) hW hk hf fun _ => .zip hz hTI hTO (.list hφa i1) (.inr ⟨_, _, i1⟩) (.list hφb i2) (.inr ⟨_, _, i2⟩) (nodup5 _)
  · cases e3
    subst ev
    rw [AV.str_of e1] at h1
    rw [AV.obj_of e2] at h2
    obtain ⟨t, rfl⟩ := h1.str_inv
    refine hW.hd.listE hj h2 fun b vsb nb eb hb hob hvb => ?_
    subst eb
    refine callType_new F.called_zip (by decide) (F.typeCall_zip_2 _ _) (F.newCall_zip_2 _ _) (fun obj => F.args_object_init_3 obj _ _) F.entry_zip_new
      (meets_zip_SL x t b vsb.toArray ha) ⟨⟨_, hob, rfl, nb, rfl⟩, ?_⟩
    have z1 : (zSL1 s.heap x t).objs.size = s.heap.objs.size + 1 := Heap.size_push ..
    have z2 : (zSL2 s.heap x t b).objs.size = s.heap.objs.size + 2 := by rw [Heap.size_push, z1]
    have z3 : (zSL3 s.heap x t b).objs.size = s.heap.objs.size + 3 := by rw [Heap.size_push, z2]
    have z4 : (zSL4 s.heap x t b).objs.size = s.heap.objs.size + 4 := by rw [Heap.size_push, z3]
    have g5 : (zSL5 s.heap x t b).get? (zSL4 s.heap x t b).objs.size = some _ := Heap.get?_push_size _ rfl
    have g4 : (zSL5 s.heap x t b).get? (zSL3 s.heap x t b).objs.size = some _ := Heap.get?_push_of_some _ (Heap.get?_push_size _ rfl)
    have g3 : (zSL5 s.heap x t b).get? (zSL2 s.heap x t b).objs.size = some _ := Heap.get?_push_of_some _ (Heap.get?_push_of_some _ (Heap.get?_push_size _ rfl))
    have g2 : (zSL5 s.heap x t b).get? (zSL1 s.heap x t).objs.size = some _ := Heap.get?_push_of_some _ (Heap.get?_push_of_some _ (Heap.get?_push_of_some _ (Heap.get?_push_size _ rfl)))
    have g1 : (zSL5 s.heap x t b).get? s.heap.objs.size = some _ := Heap.get?_push_of_some _ (Heap.get?_push_of_some _ (Heap.get?_push_of_some _ (Heap.get?_push_of_some _ (Heap.get?_push_size _ rfl))))
    rw [z2, z3, z4] at g5
    rw [z1, z2] at g3
    rw [z3] at g4
    rw [z1] at g2
    show _ ∧ _
    rw [z4]
    refine ⟨⟨_, g5, rfl⟩, ?_⟩
    refine wpAny_pyIter_zip g5 ?_
    have i1 : (zSL5 s.heap x t b).IsStrIter s.heap.objs.size "str_ascii_iterator" x t 0 := ⟨_, g1, rfl, rfl⟩
    have i2 : (zSL5 s.heap x t b).IsListIter (s.heap.objs.size + 1) b 0 := ⟨_, g2, rfl, rfl⟩
    exact IterStart.mk' (t := s.toks) hW (fun c o w => Heap.get?_push_of_some _ (Heap.get?_push_of_some _ (Heap.get?_push_of_some _ (Heap.get?_push_of_some _ (Heap.get?_push_of_some _ w))))) hf fun _ =>
      .zip g5 g3 g4 (Leaf.str (i := 0) i1) (.inl ⟨_, _, _, i1⟩) (.list hb i2) (.inr ⟨_, _, i2⟩) (nodup5 _)
end
end Mine
end
section
open PySem PySem.W PyProof.Rows
set_option Elab.async false
set_option maxRecDepth 100000
set_option linter.all false
set_option autoImplicit false
namespace Mine
section
variable {G : Glob} {n : Nat} {fr : Fm}
theorem self_iter {A : Around} {X φ : List Addr} {s : Shared} {src : ISrc} {it : Addr} {fp : List Addr} {E : Value → Shared → Prop} {Q : Value → Shared → Prop} (h : IRel s.heap X φ src it fp) (q : Q (.ref it) s) : wpAny (model G.prog G.w) A (pyIter (.ref it)) Q E s := by
  cases h with
  | leaf hl =>
    cases hl with
    | str hs => exact wpAny_pyIter_striter_ascii hs q
    | tup hi hx ht hv => exact wpAny_pyIter_tupleiter hi q
    | range hr => exact wpAny_pyIter_rangeiter hr q
    | list ha hi => exact wpAny_pyIter_listiter hi q
  | enum he hl hi hne => exact wpAny_pyIter_enum he q
  | zip hz h1 h2 l1 i1 l2 i2 hn => exact wpAny_pyIter_zip hz q
/-- one turn of a list comprehension -/
theorem comp_step {prog : Program} {w : World} {A : Around} {R : Result → Shared → Prop} {elt target iter : Expr} {scope : Scope} {pos : Pos} {it acc : Value} {env : Env} {s : Shared}
    (h : wpAny (model prog w) A (pyNext it) (fun r s₁ => match r with
      | none => R (.ok .next) s₁
      | some v => wpAny (model prog w) A (letOwnedTupleGo target it v) (fun _ s₂ => wpAny (model prog w) A (assign target env v) (fun _ s₃ => wpAny (model prog w) A (eval elt env) (fun x s₄ =>
          wpAny (model prog w) A (call (.builtin "list.append") [acc, x]) (fun _ s₅ => codeAny (model prog w) A (.compLoop (.ListComp elt [⟨target, iter, [], 0⟩] scope pos) 0 it acc env) R s₅) noE s₄) noE s₃) noE s₂) noE s₁) noE s) :
    codeAny (model prog w) A (.compLoop (.ListComp elt [⟨target, iter, [], 0⟩] scope pos) 0 it acc env) R s := by
  refine codeAny_of_tree ?_
  rw [Around.under_of_weight (c := .compLoop (.ListComp elt [⟨target, iter, [], 0⟩] scope pos) 0 it acc env) rfl]
  show wpAny _ _ ((compTurn (.ListComp elt [⟨target, iter, [], 0⟩] scope pos) 0 it acc env).onRaise (fun x => do noteFrame x env; theTreesLotGoes x)) _ _ s
  refine wpAny_noted (noE_any ?_)
  rw [compTurn_list1]
  refine wpAny_bind (wpAny_standAt (wpAny_bind (wpAny_mono h (fun r s₁ h₁ => ?_) fun _ _ h' => h'.elim)))
  cases r with
  | none => exact wpAny_pure h₁
  | some v =>
    refine wp_then h₁ fun _ s₂ h₂ => wp_then h₂ fun _ s₃ h₃ => wpAny_bind (wp_then h₃ fun x s₄ h₄ => ?_)
    exact wp_then h₄ fun _ s₅ h₅ => wpAny_pure (wpAny_pure ⟨rfl, h₅⟩)
noncomputable def compF (Fa : AV → St → Option St) (Fe : St → Option (AV × St)) (i : Nat) : Nat → ISrc → St → Option St
  | 0, _, _ => none
  | k + 1, src, S => turnO (inext S.hp src) (some S) fun v src' => (Fa v S).bind fun S₁ => thenO (Fe S₁) fun y S₂ => (listAt S₂.hp i).bind fun l => if l.length ≤ 4096 then compF Fa Fe i k src' ⟨S₂.hp.set i (.list (l ++ [y])), S₂.loc⟩ else none
theorem append_run {A : Around} {X φ : List Addr} {H : List AO} {s : Shared} {i : Nat} {a : Addr} {l : List AV} {v : AV} {r : Value} (hh : Hd G X φ H s) (ha : φ[i]? = some a) (hl : H[i]? = some (.list l)) (hv : VRel s.heap X φ v r) (hz : l.length ≤ 4096) :
    wpAny (model G.prog G.w) A (call (.builtin "list.append") [.ref a, r]) (HAfter G X φ s VRel (.c .none) (H.set i (.list (l ++ [v])))) noE s := by
  obtain ⟨a', ha', vs, m, ho, hvs⟩ := hh.obj _ _ hl
  cases Option.some.inj (ha.symm.trans ha')
  refine wpAny_list_append_plain (items := vs.toArray) ⟨m, ho⟩ (fun h' ⟨m', ho'⟩ hs => ?_) (by rw [List.size_toArray, hvs.length]; exact Nat.le_trans hz (by decide))
  exact HAfter.turn (t := s.toks) hh ha (fun c o hc e => (hs.2 c hc).trans e) (fun tk => ⟨vs ++ [r], m', by simpa using ho', (hvs.mono tk (.refl φ)).append (.cons (hv.mono tk (.refl φ)) .nil)⟩) fun _ => .c _
noncomputable def CompEnd (G : Glob) (X φ fp : List Addr) (L : Addr) (s : Shared) (S' : St) (R : Result → Shared → Prop) : Prop := ∀ s' φ', Lp φ fp L s φ' s' → Wd G X φ' L S' s' → R (.ok .next) s'
theorem comp_loop {target elt iter : Expr} {scope : Scope} {pos : Pos} {Fa : AV → St → Option St} {Fe : St → Option (AV × St)} (ha : AsOk G n fr (fun env v => assign target env v) Fa) (he : EOk G n fr elt Fe) {A : Around} (hR : Room n A) {X fp : List Addr} {env : Env} {it acc : Addr} {i : Nat} {R : Result → Shared → Prop} (hdis : ∀ b ∈ fp, b ∉ X) (k : Nat) :
    ∀ (src : ISrc) (S S' : St) (φ : List Addr) (s : Shared), targetOk src target = true → EnvOk fr env φ → Wd G (fp ++ X) φ env.locals S s → IRel s.heap (fp ++ X) φ src it fp → φ[i]? = some acc → compF Fa Fe i k src S = some S' →
      CompEnd G X φ fp env.locals s S' R → codeAny (model G.prog G.w) A (.compLoop (.ListComp elt [⟨target, iter, [], 0⟩] scope pos) 0 (.ref it) (.ref acc) env) R s := by
  induction k with
  | zero => intro src S S' φ s ht hE hW hI hi h hr; cases h
  | succ k ih =>
    intro src S S' φ s ht hE hW hI hi h hr
    have hfp : ∀ b ∈ fp, b ∈ fp ++ X := fun b hb => List.mem_append.mpr (.inl hb)
    refine turnE h (fun e h => ?_) fun v src' e h => bindE h fun S₁ e1 h => thenE h fun y S₂ e2 h => bindE h fun l hl h => iteE h fun hz hg => ?_
    · cases h
      refine comp_step (wp_mono' (iter_over hR.handled hW.hd hfp hI e) fun r s₁ ⟨hrn, ho⟩ => ?_)
      subst hrn
      obtain ⟨hW₁, hk₁⟩ := over_wd hW hdis ho
      exact hr s₁ φ (.over hk₁ (.refl _ _) (.refl _ _)) hW₁
    · have ht' : targetOk src' target = true := targetOk_next e ht
      refine comp_step (wp_mono' (iter_item hW.hd hfp hI e ht) fun r s₁ ⟨rv, hrv, hlet⟩ => ?_)
      subst hrv
      refine wp_mono' hlet fun _ s₂ hitem => ?_
      obtain ⟨hW₂, hv₂, hI₂, hk₂⟩ := item_wd hW hfp hitem
      refine wp_mono' (ha A (fp ++ X) φ env s₂ S v rv S₁ hR hE hW₂ hv₂ e1) fun _ s₃ ⟨φ₃, p₃⟩ => ?_
      refine wp_mono' (he A (fp ++ X) φ₃ env s₃ S₁ y S₂ hR (hE.pre p₃.nx.pre) p₃.wd e2) fun x s₄ ⟨φ₄, p₄, hx⟩ => ?_
      refine wp_mono' (append_run p₄.wd.hd ((p₃.nx.pre.trans p₄.nx.pre).get hi) (listAt_of hl) hx hz) fun _ s₅ h₅ => ?_
      obtain ⟨φ₅, p₅, _⟩ := h₅.lift p₄.wd
      have pp := (p₃.trans p₄).trans p₅
      have nx : Nx φ s φ₅ := Nx.trans (.refl φ s) hk₂ pp.nx
      have kp : Kp (φ ++ (env.locals :: fp)) s s₅ := by
        refine Kp.trans (hk₂.more fun b hb => by simp [hb]) pp.kp fun b o e hb => ?_
        rcases List.mem_append.mp hb with q | q
        · exact List.mem_append.mpr (.inl q)
        · simp at q; subst q; simp
      have hI₅ : IRel s₅.heap (fp ++ X) φ₅ src' it fp := hI₂.mono (pp.tupK hW₂) pp.nx.pre fun b hb o ho => pp.kp.keep b o ho fun q => by
        rcases List.mem_append.mp q with q | q
        · exact hW.hd.xφ b (hfp b hb) q
        · simp at q; subst q; exact hW.LX (hfp _ hb)
      exact ih src' _ S' φ₅ s₅ ht' (hE.pre pp.nx.pre) pp.wd hI₅ (pp.nx.pre.get hi) hg fun s' φ' l w => hr s' φ' (.cons nx kp l) w
noncomputable def closA (fr : Fm) : List (Str × NameKind) → List (Str × Nat) → Option (List (Str × Nat))
  | [], cs => some cs
  | (x, k) :: r, cs => if k = .free then (Option.bind (fr.cells.lookup x) fun i => closA fr r ((x, i) :: cs)) else closA fr r cs
theorem CellsRel.cons {φ : List Addr} {cs : List (Str × Nat)} {cl : List (Str × Addr)} (h : CellsRel φ cs cl) {x : Str} {i : Nat} {a : Addr} (ha : φ[i]? = some a) : CellsRel φ ((x, i) :: cs) ((x, a) :: cl) := by
  intro y j e
  by_cases z : y = x
  · subst z
    simp only [List.lookup_cons_self, Option.some.injEq] at e
    subst e
    exact ⟨_, ha, by simp⟩
  · have z' : (y == x) = false := by simp [z]
    simp only [List.lookup, z'] at e ⊢
    exact h y j e
theorem clos_loop {env : Env} {φ : List Addr} (hE : EnvOk fr env φ) (f : Str × NameKind → List (Str × Addr) → Sem (ForInStep (List (Str × Addr))))
    (hf : ∀ x k cs, f (x, k) cs = if k = .free then (do let a ← cellOf env x; pure (.yield ((x, a) :: cs))) else pure (.yield cs)) :
    ∀ (names : List (Str × NameKind)) (cs cs' : List (Str × Nat)) (cl : List (Str × Addr)), CellsRel φ cs cl → closA fr names cs = some cs' → ∃ cl', forIn names cl f = pure cl' ∧ CellsRel φ cs' cl'
  | [], cs, cs', cl, hc, h => by cases h; exact ⟨cl, by rw [List.forIn_nil], hc⟩
  | (x, k) :: r, cs, cs', cl, hc, h => by
    simp only [closA] at h
    by_cases q : k = .free
    · subst q
      simp only [if_true] at h
      first | refine bindE h fun i e h => ?_ | refine mapE h fun i e h => ?_
      obtain ⟨a, ha, hl⟩ := hE.cells x i e
      obtain ⟨cl', e', hc'⟩ := clos_loop hE f hf r _ _ _ (hc.cons (x := x) ha) h
      refine ⟨cl', ?_, hc'⟩
      rw [List.forIn_cons, hf]
      simp only [if_true, cellOf, hl]
      exact e'
    · simp only [if_neg q] at h
      obtain ⟨cl', e', hc'⟩ := clos_loop hE f hf r _ _ _ hc h
      refine ⟨cl', ?_, hc'⟩
      rw [List.forIn_cons, hf, if_neg q]
      exact e'
theorem clos_of {env : Env} {φ : List Addr} (hE : EnvOk fr env φ) {scope : Scope} {cs : List (Str × Nat)} (h : closA fr scope.names [] = some cs) : ∃ cl, closureFor scope env = pure cl ∧ CellsRel φ cs cl := by
  obtain ⟨cl, e, hc⟩ := clos_loop (cl := []) hE (fun (p : Str × NameKind) cs => if (p.2 == .free) = true then (do let a ← cellOf env p.1; pure (.yield ((p.1, a) :: cs))) else pure (.yield cs)) (fun x k cs => by
    by_cases q : k = .free
    · subst q; rfl
    · have : (k == NameKind.free) = false := by simpa using q
      simp [this, q]) scope.names [] cs .nil h
  refine ⟨cl, ?_, hc⟩
  have : closureFor scope env = (forIn scope.names [] (fun (p : Str × NameKind) cs => if (p.2 == .free) = true then (do let a ← cellOf env p.1; pure (.yield ((p.1, a) :: cs))) else pure (.yield cs)) >>= pure) := by
    unfold closureFor
    rfl
  rw [this, e]
  rfl
noncomputable def relab (scope : Scope) (fr : Fm) : Scope := { scope with names := scope.names.map fun (n, k) => if (k == .free && fr.scope.kind == .function && fkind fr n == some .cell) then (n, .cell) else (n, k) }
theorem relab_eq {env : Env} {φ : List Addr} (hE : EnvOk fr env φ) (scope : Scope) : relabel scope env = relab scope fr := by
  unfold relabel relab fkind Env.kindOf
  rw [hE.scope]
/-- an object of none's concern is turned -/
theorem Wd.rub {X φ : List Addr} {L C : Addr} {S : St} {s : Shared} {h' : Heap} {t : Nat} (h : Wd G X φ L S s) (hC : C ∉ φ) (hCL : L ≠ C) (hCK : ∀ p ∈ G.K, p.1 ≠ C) (hCX : C ∉ X) (hn : ∃ m, s.heap.Ns C m) (hs : Heap.SameBut C s.heap h') : Wd G X φ L S { s with heap := h', toks := t } := by
  have nt : ∀ vs, ¬ s.heap.IsTuple C vs := fun vs ⟨o', ho', _, n, hd'⟩ => by obtain ⟨m, o, es, ep, ho, hd, _⟩ := hn; rw [ho] at ho'; cases ho'; rw [hd] at hd'; cases hd'
  have hk : ∀ b o, s.heap.get? b = some o → b ∉ [C] → h'.get? b = some o := fun b o e q => (hs.2 b (by simpa using q)).trans e
  obtain ⟨tk, hd⟩ := h.hd.step (t := t) [C] hk (fun x hx q => by simp at q; subst q; exact absurd hx hCX) (fun b hb => by simp at hb; subst hb; exact ⟨hC, hCK, .inr nt⟩)
  refine ⟨hd, h.Lφ, h.LX, h.LK, ?_⟩
  obtain ⟨m, ⟨o, es, ep, hoL, r⟩, nr⟩ := h.loc
  exact ⟨m, ⟨o, es, ep, hk L o hoL (by simpa using hCL), r⟩, nr.mono tk (.refl φ)⟩
theorem Kp.rub {M : List Addr} {s s' : Shared} {h' : Heap} {t : Nat} {C : Addr} (k : Kp M s s') (hC : s.heap.get? C = none) (hs : Heap.SameBut C s'.heap h') : Kp M s { s' with heap := h', toks := t } := by
  refine ⟨fun b o e q => (hs.2 b fun z => ?_).trans (k.keep b o e q), fun b o e => ?_⟩
  · subst z; rw [hC] at e; cases e
  · obtain ⟨o', e'⟩ := k.stay b o e
    exact ⟨o', (hs.2 b fun z => by subst z; rw [hC] at e; cases e).trans e'⟩
/-- the outer frame, behind an inner one -/
theorem comp_back {X φ φ' fp : List Addr} {L : Addr} {S : St} {s s' : Shared} {H' : List AO} (h : Wd G (fp ++ X) φ L S s) (nx : ∃ ψ, φ' = φ ++ ψ ∧ ∀ a ∈ ψ, s.heap.get? a = none ∨ a ∈ fp) (hk : ∀ b o, s.heap.get? b = some o → b ∉ φ → b ∉ fp → s'.heap.get? b = some o) (hd : Hd G X φ' H' s') :
    Wd G X φ' L ⟨H', S.loc⟩ s' := by
  obtain ⟨oL, hoL, ntL⟩ := h.Lex
  have hLf : L ∉ fp := fun q => h.LX (List.mem_append.mpr (.inl q))
  have tk : TupK (fp ++ X) s.heap s'.heap := fun a vs ⟨o, ho, r⟩ hx => ⟨o, hk a o ho (fun q => by obtain ⟨_, _, z⟩ := h.hd.mem q; exact z vs ⟨o, ho, r⟩) (fun q => hx (List.mem_append.mpr (.inl q))), r⟩
  obtain ⟨ψ, rfl, hψ⟩ := nx
  refine ⟨hd, fun q => ?_, fun q => h.LX (List.mem_append.mpr (.inr q)), h.LK, ?_⟩
  · rcases List.mem_append.mp q with q | q
    · exact h.Lφ q
    · rcases hψ L q with z | z
      · rw [z] at hoL; cases hoL
      · exact hLf z
  · obtain ⟨m, ⟨o, es, ep, ho, r⟩, nr⟩ := h.loc
    exact ⟨m, ⟨o, es, ep, hk L o ho h.Lφ hLf, r⟩, (nr.mono tk ⟨ψ, rfl⟩).less fun x hx => List.mem_append.mpr (.inr hx)⟩
theorem layA_no : ∀ {names : List (Str × NameKind)} {cs : List (Str × Nat)} {H : List AO}, (∀ y ∈ names, y.2 ≠ .cell) → layA names cs H = (cs, H)
  | [], cs, H, h => rfl
  | (x, k) :: r, cs, H, h => by
    have : k ≠ .cell := h (x, k) (by simp)
    simp only [layA, if_neg this]
    exact layA_no fun y hy => h y (by simp [hy])
noncomputable def compE (k : Nat) (target : Expr) (Fi : St → Option (ISrc × St)) (Fa : AV → St → Option St) (Fe : St → Option (AV × St)) (S : St) : Option (AV × St) := thenO (Fi S) fun src S₁ => if targetOk src target then (Option.bind (compF Fa Fe S₁.hp.length k src ⟨S₁.hp ++ [.list []], []⟩) fun S₂ => some (.obj S₁.hp.length, ⟨S₂.hp, S₁.loc⟩)) else none
structure CompOk (fr : Fm) (scope : Scope) (cs : List (Str × Nat)) : Prop where
  clos : closA fr scope.names [] = some cs
  kind : scope.kind = .function
  names : ∀ y ∈ scope.names, y.2 = .local → scope.names.lookup y.1 = some .local
  cell : ∀ y ∈ scope.names, y.2 ≠ .cell
theorem comp_run {k : Nat} {target elt iter : Expr} {scope : Scope} {pos p1 : Pos} {cs : List (Str × Nat)} {Fi : St → Option (ISrc × St)} {Fa : AV → St → Option St} {Fe : St → Option (AV × St)} (hc : CompOk fr scope cs) (hi : ItOk G n fr iter Fi)
    (ha : AsOk G n ⟨relab scope fr, cs⟩ (fun env v => assign target env v) Fa) (he : EOk G n ⟨relab scope fr, cs⟩ elt Fe)
    (hs : ∀ env x, foldedSetIterable iter env x = pure x) {A : Around} {X φ : List Addr} {env : Env} {s : Shared} {S : St} {v : AV} {S' : St} (hR : Room n A) (hE : EnvOk fr env φ) (hW : Wd G X φ env.locals S s) (q : compE k target Fi Fa Fe S = some (v, S')) {use : Option (Value → Sem Unit)} {Q : Value → Shared → Prop}
    (fin : ∀ acc C s' φ', Pt G X φ env.locals s S' φ' s' → VRel s'.heap X φ' v acc → s.heap.get? C = none → C ∉ φ' → env.locals ≠ C → (∀ p ∈ G.K, p.1 ≠ C) → C ∉ X → (∃ m, s'.heap.Ns C m) → compPost (model G.prog G.w) A noE use Q acc C (.ok .next) s') :
    wpAny (model G.prog G.w) A (comprehension (.ListComp elt [⟨target, iter, [], 0⟩] scope pos) scope env p1 (newList []) false (eval iter env) use) Q noE s := by
  first | refine thenE q fun src S₁ e1 q => ?_ | refine map2E q fun src S₁ e1 q => ?_
  refine iteE q fun ht q => ?_
  first | refine bindE q fun S₂ e2 q => ?_ | refine mapE q fun S₂ e2 q => ?_
  cases q
  obtain ⟨cl, hcl, hcr⟩ := clos_of hE hc.clos
  refine wpAny_comprehension_free rfl (hs env) hcl hc.kind hc.names (wp_mono' (hi A X φ env s S src S₁ hR hE hW e1) fun x s₁ h₁ => wp_mono' h₁ fun it' s₂ h₂ => ?_)
  obtain ⟨φ₂, it, fp, rfl, nx₂, wd₂, kp₂, hI, hf, hX⟩ := h₂
  refine wpAny_newObj_type ?_
  obtain ⟨φ₃, p₃, hacc⟩ := HAfter.new (rel := fun _ _ φ (_ : Unit) (_ : Unit) => φ[S₁.hp.length]? = some s₂.heap.objs.size) (a := ()) (r := ()) (t := s₂.toks) (o := { cls := .type "list", data := .seq ([] : List Value).toArray }) (ao := .list []) wd₂.hd (fun tk => ⟨[], _, Heap.get?_push_size _ rfl, .nil⟩) (fun e _ => e)
  generalize hs₃ : ({ s₂ with heap := s₂.heap.push { cls := .type "list", data := .seq ([] : List Value).toArray } } : Shared) = s₃
  have p₃ : HPt G (fp ++ X) φ₂ s₂ (S₁.hp ++ [.list []]) φ₃ s₃ := by rw [← hs₃]; exact p₃
  generalize hD : s₂.heap.objs.size = D at hacc ⊢
  rw [hE.glob]
  have hst : storeAll ⟨scope, (layA scope.names cs (S₁.hp ++ [.list []])).1⟩ [] ⟨(layA scope.names cs (S₁.hp ++ [.list []])).2, []⟩ = some ⟨S₁.hp ++ [.list []], []⟩ := by rw [layA_no hc.cell]; rfl
  refine wp_mono' (new_env (around := some env) (binds := []) (ab := []) hR hc.kind (by show env.builtins = _; exact hE.built) p₃.hd ((hcr.pre nx₂.pre).pre p₃.nx.pre) rfl .nil hst) fun cenv s₄ ⟨φ₄, nx₄, hE₄, wd₄, kp₄, hC, _⟩ => ?_
  rw [layA_no hc.cell] at hE₄
  have hE₄' : EnvOk ⟨relab scope fr, cs⟩ { cenv with scope := relab scope fr } φ₄ := ⟨rfl, hc.kind, hE₄.glob, hE₄.built, hE₄.cells⟩
  rw [relab_eq hE]
  have tk₃ := p₃.tupK wd₂.hd
  have hfφ₃ : ∀ b ∈ fp, b ∉ φ₃ := fun b hb => p₃.hd.xφ b (List.mem_append.mpr (.inl hb))
  have tk₄ : TupK (fp ++ X) s₃.heap s₄.heap := p₃.hd.tupK (M := []) (by rw [List.append_nil]; exact kp₄) (fun _ q => nomatch q)
  have hI₃ : IRel s₃.heap (fp ++ X) φ₃ src it fp := hI.mono tk₃ p₃.nx.pre fun b hb o e => p₃.kp.keep b o e (wd₂.hd.xφ b (List.mem_append.mpr (.inl hb)))
  have hI₄ : IRel s₄.heap (fp ++ X) φ₄ src it fp := hI₃.mono tk₄ nx₄.pre fun b hb o e => kp₄.keep b o e (hfφ₃ b hb)
  have C₂ : s₂.heap.get? cenv.locals = none := none_of_stay p₃.kp.stay hC
  have C₀ : s.heap.get? cenv.locals = none := none_of_stay kp₂.stay C₂
  have hEnd : CompEnd G X φ₄ fp cenv.locals s₄ S₂ (fun r s' => compPost (model G.prog G.w) A noE use Q (.ref D) cenv.locals r s') := by
    intro s' φ' l w
    have nx : ∃ ψ, φ' = φ₂ ++ ψ ∧ ∀ a ∈ ψ, s₂.heap.get? a = none ∨ a ∈ fp := by
      obtain ⟨ψ₁, rfl, h₁⟩ := p₃.nx
      obtain ⟨ψ₂, rfl, h₂⟩ := nx₄
      obtain ⟨ψ₃, rfl, h₃⟩ := l.nx
      refine ⟨ψ₁ ++ (ψ₂ ++ ψ₃), by simp, fun a ha => ?_⟩
      rcases List.mem_append.mp ha with z | z
      · exact .inl (h₁ a z)
      · rcases List.mem_append.mp z with z | z
        · exact .inl (none_of_stay p₃.kp.stay (h₂ a z))
        · exact (h₃ a z).imp_left fun e => none_of_stay p₃.kp.stay (none_of_stay kp₄.stay e)
    have notφ : ∀ b o, s₂.heap.get? b = some o → b ∉ φ₂ → b ∉ φ₃ ∧ b ∉ φ₄ := fun b o e hb => by
      have hb₃ : b ∉ φ₃ := fun z => by
        obtain ⟨ψ₁, rfl, h₁⟩ := p₃.nx
        rcases List.mem_append.mp z with z | z
        · exact hb z
        · rw [h₁ b z] at e; cases e
      refine ⟨hb₃, fun z => ?_⟩
      obtain ⟨ψ₂, rfl, h₂⟩ := nx₄
      rcases List.mem_append.mp z with z | z
      · exact hb₃ z
      · have := none_of_stay p₃.kp.stay (h₂ b z); rw [this] at e; cases e
    have keep : ∀ b o, s₂.heap.get? b = some o → b ∉ φ₂ → b ∉ fp → s'.heap.get? b = some o := fun b o e hb hbf =>
      l.keep b o (kp₄.keep b o (p₃.kp.keep b o e hb) (notφ b o e hb).1) (notφ b o e hb).2 (fun z => by subst z; rw [C₂] at e; cases e) hbf
    have wdB := comp_back wd₂ nx keep w.hd
    have pt : Pt G X φ env.locals s ⟨S₂.hp, S₁.loc⟩ φ' s' := by
      refine ⟨?_, wdB, fun b o e hb => ?_, fun b o e => ?_⟩
      · obtain ⟨ψ₁, rfl, h₁⟩ := nx₂
        obtain ⟨ψ₂, rfl, h₂⟩ := nx
        refine ⟨ψ₁ ++ ψ₂, by simp, fun a ha => ?_⟩
        rcases List.mem_append.mp ha with z | z
        · exact h₁ a z
        · rcases h₂ a z with z | z
          · exact none_of_stay kp₂.stay z
          · exact hf a z
      · refine keep b o (kp₂.keep b o e hb) (fun z => ?_) fun z => by rw [hf b z] at e; cases e
        obtain ⟨ψ₁, rfl, h₁⟩ := nx₂
        rcases List.mem_append.mp z with z | z
        · exact hb (List.mem_append.mpr (.inl z))
        · rw [h₁ b z] at e; cases e
      · obtain ⟨o₂, e₂⟩ := kp₂.stay b o e
        obtain ⟨o₃, e₃⟩ := p₃.kp.stay b o₂ e₂
        obtain ⟨o₄, e₄⟩ := kp₄.stay b o₃ e₃
        exact l.stay b o₄ e₄ fun z => by rw [hf b z] at e; cases e
    obtain ⟨m, hm, _⟩ := w.loc
    refine fin (.ref D) cenv.locals s' φ' pt ?_ C₀ w.Lφ (fun z => ?_) w.LK w.LX ⟨m, hm⟩
    · refine .obj ?_
      have : Pre φ₃ φ' := by
        obtain ⟨ψ₃, rfl, _⟩ := l.nx
        exact nx₄.pre.trans ⟨ψ₃, rfl⟩
      exact this.get hacc
    · obtain ⟨o, ho, _⟩ := hW.Lex
      rw [z, C₀] at ho; cases ho
  have run : codeAny (model G.prog G.w) A (.compLoop (.ListComp elt [⟨target, iter, [], 0⟩] scope pos) 0 (.ref it) (.ref D) { cenv with scope := relab scope fr }) (fun r s' => compPost (model G.prog G.w) A noE use Q (.ref D) cenv.locals r s') s₄ :=
    comp_loop ha he hR hX k src _ S₂ φ₄ s₄ ht hE₄' wd₄ hI₄ (nx₄.pre.get hacc) e2 hEnd
  exact codeAny_compStart_list run (self_iter hI₄ run)
theorem eok_comp {k : Nat} {target elt iter : Expr} {scope : Scope} {pos : Pos} {cs : List (Str × Nat)} {Fi : St → Option (ISrc × St)} {Fa : AV → St → Option St} {Fe : St → Option (AV × St)} (hc : CompOk fr scope cs) (hi : ItOk G n fr iter Fi)
    (ha : AsOk G n ⟨relab scope fr, cs⟩ (fun env v => assign target env v) Fa) (he : EOk G n ⟨relab scope fr, cs⟩ elt Fe)
    (hs : ∀ env x, foldedSetIterable iter env x = pure x) : EOk G n fr (.ListComp elt [⟨target, iter, [], 0⟩] scope pos) (compE k target Fi Fa Fe) := by
  intro A X φ env s S v S' hR hE hW q
  show wpAny _ A (eval (.ListComp elt [⟨target, iter, [], 0⟩] scope pos) env) _ _ _
  rw [eval_ListComp]
  refine comp_run hc hi ha he hs hR hE hW q fun acc C s' φ' p hv hC hCφ hCL hCK hCX hm => ?_
  obtain ⟨m, hm⟩ := hm
  refine ⟨m, hm, fun h' hsb => ⟨φ', ⟨p.nx, p.wd.rub hCφ hCL hCK hCX ⟨m, hm⟩ hsb, p.kp.rub hC hsb⟩, ?_⟩⟩
  have nt : ∀ vs, ¬ s'.heap.IsTuple C vs := fun vs ⟨o', ho', _, n, hd'⟩ => by obtain ⟨o, es, ep, ho, hd, _⟩ := hm; rw [ho] at ho'; cases ho'; rw [hd] at hd'; cases hd'
  exact hv.mono (fun a vs ⟨o, ho, r⟩ hx => ⟨o, (hsb.2 a fun z => nt vs (z ▸ ⟨o, ho, r⟩)).trans ho, r⟩) (.refl φ')
noncomputable def swapF (F : St → Option (AV × St)) (Fa : AV → St → Option St) (S : St) : Option (AFl × St) := thenO (F S) fun v S₁ => (Fa v S₁).map (.next, ·)
theorem sok_comp {k : Nat} {target elt iter : Expr} {scope : Scope} {pos spos py : Pos} {y : Str} {cs : List (Str × Nat)} {Fi : St → Option (ISrc × St)} {Fa : AV → St → Option St} {Fe : St → Option (AV × St)} (hc : CompOk fr scope cs) (hi : ItOk G n fr iter Fi)
    (ha : AsOk G n ⟨relab scope fr, cs⟩ (fun env v => assign target env v) Fa) (he : EOk G n ⟨relab scope fr, cs⟩ elt Fe)
    (hs : ∀ env x, foldedSetIterable iter env x = pure x) (hy : fkind fr y = some .local) (hk : fr.scope.kind = .function) (hl : (py.line == pos.line) = true) (hn : (scope.names.any fun (n, k) => n == y && (k == .local || k == .cell)) = false) :
    SOk G n fr (.Assign [.Name y py] (.ListComp elt [⟨target, iter, [], 0⟩] scope pos) spos) (swapF (compE k target Fi Fa Fe) (storeF fr y)) := by
  intro A X φ env s S a S' hR hE hW q
  first | refine thenE q fun v S₁ e1 q => ?_ | refine map2E q fun v S₁ e1 q => ?_
  first | refine bindE q fun S₂ e2 q => ?_ | refine mapE q fun S₂ e2 q => ?_
  cases q
  have hsw : swapsWith (.ListComp elt [⟨target, iter, [], 0⟩] scope pos) (some (.Name y py)) spos.line env = pure true := by
    have h1 : (env.blockKind == .function) = true := by unfold Env.blockKind; rw [hE.scope, hk]; rfl
    have h2 : (env.kindOf y == some .local) = true := by unfold Env.kindOf; rw [hE.scope]; show (fkind fr y == _) = true; rw [hy]; rfl
    have h3 : (py.line == (Expr.ListComp elt [⟨target, iter, [], 0⟩] scope pos).pos.line) = true := hl
    unfold swapsWith
    dsimp only
    rw [h1, h2, h3, hn]
    rfl
  show wpAny _ A (exec (.Assign [.Name y py] (.ListComp elt [⟨target, iter, [], 0⟩] scope pos) spos) env) _ _ _
  rw [exec_Assign_Name_used _ _ _ _ hsw]
  refine wpAny_bind (wpAny_standAt (wpAny_bind ?_))
  show wpAny _ A (do let _ ← comprehension (.ListComp elt [⟨target, iter, [], 0⟩] scope pos) scope env _ (newList []) false (eval iter env) (some (assign (.Name y py) env))) _ _ s
  refine wp_then (Q := fun _ s' => After G X φ env.locals s FlRel .next S' .next s') (comp_run hc hi ha he hs hR hE hW e1 fun acc C s' φ' p hv hC hCφ hCL hCK hCX hm => ?_) fun _ s' h' => wpAny_pure (wpAny_pure h')
  show wpAny _ A (assign (.Name y py) env acc) _ _ _
  refine wp_mono' (aok_name A X φ' env s' S₁ v acc S' hR (hE.pre p.nx.pre) p.wd hv e2) fun _ s₂ ⟨φ₂, p₂⟩ => ?_
  obtain ⟨m, o, es, ep, ho, r⟩ := hm
  have hC₂ : s₂.heap.get? C = some o := p₂.kp.keep C o ho fun z => by
    rcases List.mem_append.mp z with z | z
    · exact hCφ z
    · simp at z; exact hCL z.symm
  have hm₂ : s₂.heap.Ns C m := ⟨o, es, ep, hC₂, r⟩
  have hCφ₂ : C ∉ φ₂ := fun z => by
    obtain ⟨ψ, rfl, h⟩ := p₂.nx
    rcases List.mem_append.mp z with z | z
    · exact hCφ z
    · rw [h C z] at ho; cases ho
  have pp := p.trans p₂
  refine ⟨m, hm₂, fun h' hsb => ⟨φ₂, ⟨pp.nx, pp.wd.rub hCφ₂ hCL hCK hCX ⟨m, hm₂⟩ hsb, pp.kp.rub hC hsb⟩, trivial⟩⟩
end
end Mine
end
section
open PySem PySem.W PyProof.Rows
set_option Elab.async false
set_option maxRecDepth 100000
set_option linter.all false
set_option autoImplicit false
namespace Mine
theorem ite_some {α : Type} {c : Prop} [Decidable c] {x : Option α} {y : α} (h : (if c then x else none) = some y) : c ∧ x = some y := by
  by_cases z : c
  · rw [if_pos z] at h; exact ⟨z, h⟩
  · rw [if_neg z] at h; cases h
section
variable {G : Glob} {n : Nat} {α β : Type} {m : Value → Value → Sem β} {rel : RelT α β}
/-- both parts of one kind -/
noncomputable def on2 {γ δ : Type} (p : AV → Option γ) (q : AV → Option δ) (f : List AO → γ → δ → Option (α × List AO)) (H : List AO) (a b : AV) : Option (α × List AO) := (p a).bind fun x => (q b).bind fun y => f H x y
theorem P2Ok.on2 {γ δ : Type} {p : AV → Option γ} {q : AV → Option δ} {ca : γ → AV} {cb : δ → AV} {f : List AO → γ → δ → Option (α × List AO)} (hp : ∀ {a x}, p a = some x → a = ca x) (hq : ∀ {a x}, q a = some x → a = cb x)
    (h : ∀ {A : Around} {X φ : List Addr} {s : Shared} {H : List AO} {x : γ} {y : δ} {ra rb : Value} {v : α} {H' : List AO}, Hd G X φ H s → VRel s.heap X φ (ca x) ra → VRel s.heap X φ (cb y) rb → f H x y = some (v, H') → wpAny (model G.prog G.w) A (m ra rb) (HAfter G X φ s rel v H') noE s) : P2Ok G n m rel (Mine.on2 p q f) := by
  intro A X φ s H a b ra rb v H' hR hh ha hb e
  obtain ⟨x, e1, e⟩ := Option.bind_eq_some_iff.mp e
  obtain ⟨y, e2, e⟩ := Option.bind_eq_some_iff.mp e
  rw [hp e1] at ha
  rw [hq e2] at hb
  exact h hh ha hb e
theorem P2Ok.or {f g : List AO → AV → AV → Option (α × List AO)} (h : P2Ok G n m rel f) (k : P2Ok G n m rel g) : P2Ok G n m rel fun H a b => (f H a b).or (g H a b) := by
  intro A X φ s H a b ra rb v H' hR hh ha hb e
  rcases Option.or_eq_some_iff.mp e with e | e
  · exact h A X φ s H a b ra rb v H' hR hh ha hb e
  · exact k A X φ s H a b ra rb v H' hR hh ha hb e.2
noncomputable def iiA (c : Int → Int → Prop) [∀ i j, Decidable (c i j)] (g : Int → Int → Int) : List AO → AV → AV → Option (AV × List AO) := on2 AV.int? AV.int? fun H i j => if c i j then some (.int (g i j), H) else none
theorem P2Ok.ii {m : Value → Value → Sem Value} {c : Int → Int → Prop} [∀ i j, Decidable (c i j)] {g : Int → Int → Int}
    (h : ∀ {A : Around} {s : Shared} {i j : Int} {t u : Tok} {Q : Value → Shared → Prop}, c i j → (∀ t', Q (.int (g i j) t') { s with toks := s.toks + 1 }) → wpAny (model G.prog G.w) A (m (.int i t) (.int j u)) Q noE s) : P2Ok G n m VRel (iiA c g) :=
  .on2 AV.int_of AV.int_of fun hh ha hb e => by
    obtain ⟨hc, e⟩ := ite_some e
    obtain ⟨rfl, rfl⟩ := some_inj2 e
    obtain ⟨t, rfl⟩ := ha.int_inv
    obtain ⟨u, rfl⟩ := hb.int_inv
    exact h hc fun t' => HAfter.same (t := _) hh (.int _ _)
noncomputable def ssA (g : Str → Str → Str) : List AO → AV → AV → Option (AV × List AO) := on2 AV.str? AV.str? fun H x y => if x.length + y.length ≤ 4096 then some (.str (g x y), H) else none
theorem P2Ok.ss {m : Value → Value → Sem Value} {g : Str → Str → Str}
    (h : ∀ {A : Around} {s : Shared} {x y : Str} {t u : Tok} {Q : Value → Shared → Prop}, x.length + y.length ≤ 4096 → (∀ t' k, Q (.str (g x y) t') { s with toks := k }) → wpAny (model G.prog G.w) A (m (.str x t) (.str y u)) Q noE s) : P2Ok G n m VRel (ssA g) :=
  .on2 AV.str_of AV.str_of fun hh ha hb e => by
    obtain ⟨hc, e⟩ := ite_some e
    obtain ⟨rfl, rfl⟩ := some_inj2 e
    obtain ⟨t, rfl⟩ := ha.str_inv
    obtain ⟨u, rfl⟩ := hb.str_inv
    exact h hc fun t' k => HAfter.same (t := k) hh (.str _ _)
/-- a comparison of two of a kind -/
noncomputable def cmpA {γ δ : Type} (p : AV → Option γ) (q : AV → Option δ) (g : γ → δ → Bool) : List AO → AV → AV → Option (Bool × List AO) := on2 p q fun H x y => some (g x y, H)
theorem P2Ok.cii {m : Value → Value → Sem Value} {g : Int → Int → Bool} (h : ∀ {A : Around} {s : Shared} {i j : Int} {t u : Tok} {Q : Value → Shared → Prop}, Q (.bool (g i j)) s → wpAny (model G.prog G.w) A (m (.int i t) (.int j u)) Q noE s) : P2Ok G n m Brel (cmpA AV.int? AV.int? g) :=
  .on2 AV.int_of AV.int_of fun hh ha hb e => by
    obtain ⟨rfl, rfl⟩ := some_inj2 e
    obtain ⟨t, rfl⟩ := ha.int_inv
    obtain ⟨u, rfl⟩ := hb.int_inv
    exact h (HAfter.here hh rfl)
theorem P2Ok.css {m : Value → Value → Sem Value} {g : Str → Str → Bool} (h : ∀ {A : Around} {s : Shared} {i j : Str} {t u : Tok} {Q : Value → Shared → Prop}, Q (.bool (g i j)) s → wpAny (model G.prog G.w) A (m (.str i t) (.str j u)) Q noE s) : P2Ok G n m Brel (cmpA AV.str? AV.str? g) :=
  .on2 AV.str_of AV.str_of fun hh ha hb e => by
    obtain ⟨rfl, rfl⟩ := some_inj2 e
    obtain ⟨t, rfl⟩ := ha.str_inv
    obtain ⟨u, rfl⟩ := hb.str_inv
    exact h (HAfter.here hh rfl)
end
section
variable {G : Glob} {n : Nat}
noncomputable def b2A (b : Bool) : Int := if b = true then 1 else 0
theorem le_size {n : Nat} (h : n ≤ 4096) : n ≤ sizeLine := Nat.le_trans h (by decide)
noncomputable def AV.bool? : AV → Option Bool
  | .c (.bool b) => some b
  | _ => none
theorem AV.bool_of {a : AV} {i : Bool} (h : a.bool? = some i) : a = .c (.bool i) :=
  elimE (p := fun i => a = .c (.bool i)) (by cases a with | c v => (cases v <;> first | trivial | rfl) | _ => trivial) h
noncomputable def ibA : List AO → AV → AV → Option (AV × List AO) := on2 AV.int? AV.bool? fun H i b => some (.int (i + b2A b), H)
theorem P2Ok.ib {m : Value → Value → Sem Value} (h : ∀ {A : Around} {s : Shared} {i : Int} {b : Bool} {t : Tok} {Q : Value → Shared → Prop}, (∀ t', Q (.int (i + b2A b) t') { s with toks := s.toks + 1 }) → wpAny (model G.prog G.w) A (m (.int i t) (.bool b)) Q noE s) : P2Ok G n m VRel ibA :=
  .on2 AV.int_of AV.bool_of fun hh ha hb e => by
    obtain ⟨rfl, rfl⟩ := some_inj2 e
    obtain ⟨t, rfl⟩ := ha.int_inv
    cases hb.c_inv
    exact h fun t' => HAfter.same (t := _) hh (.int _ _)
noncomputable def llA : List AO → AV → AV → Option (AV × List AO) := on2 AV.obj? AV.obj? fun H i j => (listAt H i).bind fun l => (listAt H j).bind fun m => if l.length + m.length ≤ 4096 then some (.obj H.length, H ++ [.list (l ++ m)]) else none
noncomputable def addA (H : List AO) (a b : AV) : Option (AV × List AO) := (iiA (fun _ _ => True) (fun i j => i + j) H a b).or ((ibA H a b).or ((ssA (fun x y => x ++ y) H a b).or (llA H a b)))
theorem p_add : P2Ok G n (binaryOp .Add) VRel addA :=
  .or (.ii fun _ h => PyProof.Rows.add_int (h _)) (.or (.ib fun h => PySem.add_int_bool (h _)) (.or (.ss fun hc h => PyProof.Rows.add_str h (le_size hc)) (.on2 AV.obj_of AV.obj_of fun {A X φ s H i j ra rb v H'} hh ha hb e => by
    obtain ⟨l, hl, e⟩ := Option.bind_eq_some_iff.mp e
    obtain ⟨m, hm, e⟩ := Option.bind_eq_some_iff.mp e
    obtain ⟨hz, e⟩ := ite_some e
    obtain ⟨rfl, rfl⟩ := some_inj2 e
    obtain ⟨ra', rfl, ha2⟩ := ha.obj_inv
    obtain ⟨rb', rfl, hb2⟩ := hb.obj_inv
    obtain ⟨a', ha', vs, k, ho, hvs⟩ := hh.obj _ _ (listAt_of hl)
    obtain ⟨b', hb', ws, k', ho', hws⟩ := hh.obj _ _ (listAt_of hm)
    rw [ha2] at ha'; cases ha'
    rw [hb2] at hb'; cases hb'
    refine P.add_list ho ho' ?_ (by rw [List.size_toArray, List.size_toArray, hvs.length, hws.length]; exact le_size hz)
    exact HAfter.new (t := s.toks) hh (fun tk => ⟨vs ++ ws, 0, by rw [← List.append_toArray]; exact Heap.get?_push_size _ rfl, (hvs.mono tk ⟨_, rfl⟩).append (hws.mono tk ⟨_, rfl⟩)⟩) fun e tk => .obj e)))
theorem or_pos {α : Type} {c : Prop} [Decidable c] {x : α} {z : Option α} (h : c) : Option.or (if c then some x else none) z = some x := by rw [if_pos h]; rfl
theorem addA_str {H : List AO} {x y : Str} (h : x.length + y.length ≤ 4096) : addA H (.str x) (.str y) = some (.str (x ++ y), H) := or_pos h
noncomputable def bbA : List AO → AV → AV → Option (AV × List AO) := on2 AV.bool? AV.bool? fun H p q => some (.int (b2A p - b2A q), H)
noncomputable def subA (H : List AO) (a b : AV) : Option (AV × List AO) := (iiA (fun _ _ => True) (fun i j => i - j) H a b).or (bbA H a b)
theorem p_sub : P2Ok G n (binaryOp .Sub) VRel subA :=
  .or (.ii fun _ h => PyProof.Rows.sub_int' (h _)) (.on2 AV.bool_of AV.bool_of fun hh ha hb e => by
    obtain ⟨rfl, rfl⟩ := some_inj2 e
    cases ha.c_inv
    cases hb.c_inv
    exact PyProof.Rows.sub_bool (HAfter.same (t := _) hh (.int _ _)))
noncomputable def mulA : List AO → AV → AV → Option (AV × List AO) := iiA (fun i j => Builtin.Int.intBits i ≤ 2 ^ 20 ∧ Builtin.Int.intBits j ≤ 2 ^ 20) (fun i j => i * j)
theorem p_mul : P2Ok G n (binaryOp .Mult) VRel mulA := .ii fun c h => PyProof.Rows.mul_int (h _) (IntMulOk.of_bits c.1 c.2)
theorem p_imul : P2Ok G n (inplaceOp .Mult) VRel mulA := .ii fun c h => PyProof.Rows.imul_int (h _) (IntMulOk.of_bits c.1 c.2)
noncomputable def iaddA (H : List AO) (a b : AV) : Option (AV × List AO) := (iiA (fun _ _ => True) (fun i j => i + j) H a b).or ((ibA H a b).or (ssA (fun x y => x ++ y) H a b))
theorem p_iadd : P2Ok G n (inplaceOp .Add) VRel iaddA :=
  .or (.ii fun _ h => PyProof.Rows.iadd_int (h _)) (.or (.ib fun h => PySem.iadd_int_bool (h _)) (.ss fun hc h => PyProof.Rows.iadd_str h (le_size hc)))
theorem iaddA_str {H : List AO} {x y : Str} (h : x.length + y.length ≤ 4096) : iaddA H (.str x) (.str y) = some (.str (x ++ y), H) := if_pos h
noncomputable def fdivA : List AO → AV → AV → Option (AV × List AO) := iiA (fun _ j => j ≠ 0 ∧ j.natAbs < 1073741824) (fun i j => i.fdiv j)
theorem p_fdiv : P2Ok G n (binaryOp .FloorDiv) VRel fdivA := .ii fun hz h => PyProof.Rows.floordiv_int hz.1 (h _) (Or.inl (PyProof.noPylong_small hz.2))
noncomputable def modA : List AO → AV → AV → Option (AV × List AO) := iiA (fun _ j => j ≠ 0) (fun i j => i.fmod j)
theorem p_mod : P2Ok G n (binaryOp .Mod) VRel modA := .ii fun hz h => PyProof.Rows.mod_int' hz (h _)
noncomputable def powA : List AO → AV → AV → Option (AV × List AO) := iiA (fun i j => 0 ≤ j ∧ (Builtin.Int.intBits i : Int) * j ≤ 2 ^ 27) (fun i j => i ^ j.toNat)
theorem p_pow : P2Ok G n (binaryOp .Pow) VRel powA := .ii fun hz h => PyProof.Rows.pow_int hz.1 hz.2 (h _)
/-! comparisons -/
noncomputable def eqA (H : List AO) (a b : AV) : Option (Bool × List AO) := (cmpA AV.int? AV.int? (fun i j => i == j) H a b).or (cmpA AV.str? AV.str? (fun i j => i == j) H a b)
theorem p_eq : P2Ok G n (compareOp .Eq) Brel eqA := .or (.cii PyProof.Rows.eq_int) (.css PyProof.Rows.eq_str)
noncomputable def neA (H : List AO) (a b : AV) : Option (Bool × List AO) := (cmpA AV.int? AV.int? (fun i j => i != j) H a b).or (cmpA AV.str? AV.str? (fun i j => i != j) H a b)
theorem p_ne : P2Ok G n (compareOp .NotEq) Brel neA := .or (.cii PyProof.Rows.ne_int) (.css PyProof.Rows.ne_str)
noncomputable def gtA (H : List AO) (a b : AV) : Option (Bool × List AO) := (cmpA AV.int? AV.int? (fun i j => decide (j < i)) H a b).or (cmpA AV.str? AV.str? (fun x y => decide (y.cps.toList < x.cps.toList)) H a b)
theorem p_gt : P2Ok G n (compareOp .Gt) Brel gtA := .or (.cii PyProof.Rows.gt_int) (.css P.gt_str)
noncomputable def ltA (H : List AO) (a b : AV) : Option (Bool × List AO) := (cmpA AV.int? AV.int? (fun i j => decide (i < j)) H a b).or (cmpA AV.str? AV.str? (fun x y => decide (x.cps.toList < y.cps.toList)) H a b)
theorem p_lt : P2Ok G n (compareOp .Lt) Brel ltA := .or (.cii PyProof.Rows.lt_int) (.css PyProof.Rows.lt_str)
noncomputable def inA : List AO → AV → AV → Option (Bool × List AO) := cmpA AV.str? AV.str? fun x y => !(Builtin.Str.occurrences y x 0 y.length 1).isEmpty
theorem p_in : P2Ok G n (compareOp .In) Brel inA := .css PyProof.Rows.in_str
/-- an abstract value against None, or two built-in types -/
noncomputable def AV.type? : AV → Option String
  | .c (.type T) => some T
  | _ => none
theorem AV.type_of {a : AV} {i : String} (h : a.type? = some i) : a = .c (.type i) :=
  elimE (p := fun i => a = .c (.type i)) (by cases a with | c v => (cases v <;> first | trivial | rfl) | _ => trivial) h
/-- is it None -/
noncomputable def AV.none? : AV → Option Bool
  | .c .none => some true
  | .str _ => some false
  | .int _ => some false
  | .obj _ => some false
  | _ => none
noncomputable def AV.nil? : AV → Option Unit
  | .c .none => some ()
  | _ => none
theorem AV.nil_of {a : AV} {i : Unit} (h : a.nil? = some i) : a = .c .none :=
  elimE (p := fun i => a = .c .none) (by cases a with | c v => (cases v <;> first | trivial | rfl) | _ => trivial) h
theorem none_rel {h : Heap} {X φ : List Addr} {a : AV} {r : Value} {b : Bool} (x : VRel h X φ a r) (e : a.none? = some b) : (r == Value.none) = b := by
  cases x with
  | c => cases r <;> cases e <;> rfl
  | _ => cases e <;> rfl
noncomputable def tyA : List AO → AV → AV → Option (Bool × List AO) := cmpA AV.type? AV.type? fun T U => Value.type T == Value.type U
noncomputable def noA : List AO → AV → AV → Option (Bool × List AO) := fun H a b => b.nil?.bind fun _ => a.none?.map fun c => (c, H)
noncomputable def isA (H : List AO) (a b : AV) : Option (Bool × List AO) := (tyA H a b).or (noA H a b)
theorem ty_run {m : Value → Value → Sem Value} {g : Bool → Bool} (h : ∀ {A : Around} {s : Shared} {T U : String} {Q : Value → Shared → Prop}, Q (.bool (g (Value.type T == Value.type U))) s → wpAny (model G.prog G.w) A (m (.type T) (.type U)) Q noE s)
    (k : ∀ {A : Around} {s : Shared} {v : Value} {Q : Value → Shared → Prop}, Q (.bool (g (v == Value.none))) s → wpAny (model G.prog G.w) A (m v .none) Q noE s) : P2Ok G n m Brel fun H a b => (isA H a b).map fun p => (g p.1, p.2) := by
  intro A X φ s H a b ra rb v H' hR hh ha hb e0
  obtain ⟨p, e, z⟩ := Option.map_eq_some_iff.mp e0
  clear e0
  obtain ⟨rfl, rfl⟩ := Prod.mk.inj z
  rcases Option.or_eq_some_iff.mp e with e | ⟨_, e⟩
  · obtain ⟨x, e1, e⟩ := Option.bind_eq_some_iff.mp e
    obtain ⟨y, e2, e⟩ := Option.bind_eq_some_iff.mp e
    rw [AV.type_of e1] at ha
    rw [AV.type_of e2] at hb
    cases ha.c_inv
    cases hb.c_inv
    cases e
    exact h (HAfter.here hh rfl)
  · obtain ⟨_, e2, e⟩ := Option.bind_eq_some_iff.mp e
    rw [AV.nil_of e2] at hb
    obtain ⟨c, e1, e⟩ := Option.map_eq_some_iff.mp e
    cases hb.c_inv
    cases e
    exact k (HAfter.here hh (by rw [none_rel ha e1]; rfl))
theorem p_is : P2Ok G n (compareOp .Is) Brel fun H a b => (isA H a b).map fun p => (p.1, p.2) := ty_run (g := fun b => b) (wpAny_is_plain rfl) PyProof.Rows.is_none_gen
theorem p_isnot : P2Ok G n (compareOp .IsNot) Brel fun H a b => (isA H a b).map fun p => (!p.1, p.2) := ty_run (g := fun b => !b) (wpAny_isNot_plain rfl) PyProof.Rows.isnot_none_gen
end
end Mine
end
section
open PySem PySem.W PyProof.Rows
set_option Elab.async false
set_option maxRecDepth 100000
set_option linter.all false
set_option autoImplicit false
namespace Mine
section
variable {G : Glob} {n : Nat} {fr : Fm}
/-! what is true -/
theorem match_bool : typeLookup (.type "re.Match") "__bool__" = pure none := by rw [typeLookup_type, builtinLookup_eq_fast]; kernel_rfl
theorem match_len : typeLookup (.type "re.Match") "__len__" = pure none := by rw [typeLookup_type, builtinLookup_eq_fast]; kernel_rfl
noncomputable def AO.opq? : AO → Option String
  | .opq T => some T
  | _ => none
theorem AO.opq_of {a : AO} {i : String} (h : a.opq? = some i) : a = .opq i :=
  elimE (p := fun i => a = .opq i) (by cases a <;> first | trivial | rfl) h
/-- one argument, by its kind -/
noncomputable def on1 {α γ : Type} (p : AV → Option γ) (f : List AO → γ → Option (α × List AO)) (H : List AO) (a : AV) : Option (α × List AO) := (p a).bind fun x => f H x
theorem P1Ok.on1 {α γ : Type} {m : Value → Sem α} {rel : RelT α α} {p : AV → Option γ} {ca : γ → AV} {f : List AO → γ → Option (α × List AO)} (hp : ∀ {a x}, p a = some x → a = ca x)
    (h : ∀ {A : Around} {X φ : List Addr} {s : Shared} {H : List AO} {x : γ} {ra : Value} {v : α} {H' : List AO}, Hd G X φ H s → VRel s.heap X φ (ca x) ra → f H x = some (v, H') → wpAny (model G.prog G.w) A (m ra) (HAfter G X φ s rel v H') noE s) : P1Ok G n m rel (Mine.on1 p f) := by
  intro A X φ s H a ra v H' hR hh ha e
  exact bindE e fun x e1 e2 => h hh (hp e1 ▸ ha) e2
theorem P1Ok.or {α : Type} {m : Value → Sem α} {rel : RelT α α} {f g : List AO → AV → Option (α × List AO)} (h : P1Ok G n m rel f) (k : P1Ok G n m rel g) : P1Ok G n m rel fun H a => (f H a).or (g H a) := fun A X φ s H a ra v H' hR hh ha e =>
  orE e (fun e => h A X φ s H a ra v H' hR hh ha e) fun e => k A X φ s H a ra v H' hR hh ha e
noncomputable def truthA (H : List AO) (a : AV) : Option (Bool × List AO) := (on1 AV.bool? (fun H b => some (b, H)) H a).or ((on1 AV.nil? (fun H _ => some (false, H)) H a).or ((on1 AV.int? (fun H i => some (i != 0, H)) H a).or ((on1 AV.str? (fun H x => if x.length ≤ 4096 then some ((x.length : Int) != 0, H) else none) H a).or
  ((on1 AV.obj? (fun H i => (listAt H i).bind fun l => if l.length ≤ 4096 then some (!l.isEmpty, H) else none) H a).or (on1 AV.obj? (fun H i => (H[i]?.bind AO.opq?).bind fun T => if T = "re.Match" then some (true, H) else none) H a)))))
theorem p_truth : P1Ok G n truthy Frel truthA :=
  .or (.on1 AV.bool_of fun hh ha e => someE e fun e1 e2 => by
    subst e1 e2
    cases ha.c_inv
    exact wpAny_truthy_bool (HAfter.here hh rfl)) <| .or (.on1 (ca := fun _ => .c .none) AV.nil_of fun hh ha e => someE e fun e1 e2 => by
    subst e1 e2
    cases ha.c_inv
    exact PyProof.Rows.truthy_none (HAfter.here hh rfl)) <| .or (.on1 AV.int_of fun hh ha e => someE e fun e1 e2 => by
    subst e1 e2
    obtain ⟨t, rfl⟩ := ha.int_inv
    exact PyProof.Rows.truthy_int (HAfter.here hh rfl)) <| .or (.on1 AV.str_of fun {A X φ s H x ra v H'} hh ha e => iteE e fun hz e => someE e fun e1 e2 => by
    subst e1 e2
    obtain ⟨t, rfl⟩ := ha.str_inv
    exact P.truthy_str (by omega) (HAfter.same (t := s.toks + 1 + 1) hh rfl)) <| .or (.on1 AV.obj_of fun {A X φ s H i ra v H'} hh ha e => bindE e fun l hl e => iteE e fun hz e => someE e fun e1 e2 => hh.listE hl ha fun a vs k er hφ ho hvs => by
    subst e1 e2 er
    have he : (!vs.toArray.isEmpty) = !l.isEmpty := hvs.ind (P := fun l vs => (!vs.toArray.isEmpty) = !l.isEmpty) rfl fun _ _ _ => rfl
    rw [← he]
    exact wpAny_truthy_list ⟨_, ho, rfl, k, rfl⟩ (by rw [List.size_toArray, hvs.length]; omega) (HAfter.same (t := s.toks + 1 + 1) hh rfl)) <| .on1 AV.obj_of fun {A X φ s H i ra v H'} hh ha e => bindE e fun T hT e => iteE e fun hz e => someE e fun e1 e2 => bindE hT fun o ho hT => by
    subst e1 e2 hz
    rw [AO.opq_of hT] at ho
    obtain ⟨a, rfl, h0⟩ := ha.obj_inv
    obtain ⟨a', ha', hT', o, ho, hc, hd⟩ := hh.obj _ _ ho
    cases Option.some.inj (h0.symm.trans ha')
    have hty : s.TypeIs (.ref a) "re.Match" := ⟨_, ho, hc⟩
    unfold truthy
    refine wpAny_bind ?_
    refine wpAny_callSpecial?_none hty match_bool ?_
    refine wpAny_bind ?_
    refine wpAny_specialOf hty match_len ?_
    exact wpAny_pure (HAfter.here hh rfl)
noncomputable def valB (F : St → Option (AV × St)) (S : St) : Option (Bool × St) := thenO (F S) fun v S₁ => (truthA S₁.hp v).map fun p => (p.1, ⟨p.2, S₁.loc⟩)
theorem bok_val {e : Expr} {F : St → Option (AV × St)} (h : EOk G n fr e F) (he : ∀ env whole, isTrue e env whole = (do let v ← whole; standAt e.pos; holding [v] (truthy v))) : BOk G n fr e (valB F) := by
  intro A X φ env s S b S' hR hE hW q
  refine thenE q fun v S₁ e1 q => map2E q fun c H e2 q => ?_
  cases q
  refine wpAny_isTrue_value (wp_mono' (h A X φ env s S v S₁ hR hE hW e1) fun r s₁ ⟨φ₁, p₁, hr⟩ => ?_) (he _ _)
  exact wp_mono' (p_truth A X φ₁ s₁ S₁.hp v r _ H hR p₁.wd.hd hr e2) fun c s₂ h₂ => .of p₁ (h₂.lift p₁.wd)
theorem bok_not {x : Expr} {pos : Pos} {F : St → Option (Bool × St)} (h : BOk G n fr x F) : BOk G n fr (.UnaryOp .Not x pos) fun S => (F S).map fun p => (!p.1, p.2) := by
  intro A X φ env s S b S' hR hE hW q
  refine map2E q fun c S₁ e1 q => ?_
  cases q
  refine wpAny_isTrue_Not (wp_mono' (h A X φ env s S c S₁ hR hE hW e1) fun r s₁ ⟨φ₁, p₁, hr⟩ => ⟨φ₁, p₁, ?_⟩)
  exact congrArg (!·) hr
noncomputable def bothF (Fa Fb : St → Option (Bool × St)) (S : St) : Option (Bool × St) := thenO (Fa S) fun b S₁ => cond b (Fb S₁) (some (false, S₁))
noncomputable def eitherF (Fa Fb : St → Option (Bool × St)) (S : St) : Option (Bool × St) := thenO (Fa S) fun b S₁ => cond b (some (true, S₁)) (Fb S₁)
theorem bok_and {x y : Expr} {pos : Pos} {Fa Fb : St → Option (Bool × St)} (ha : BOk G n fr x Fa) (hb : BOk G n fr y Fb) : BOk G n fr (.BoolOp .And [x, y] pos) (bothF Fa Fb) := by
  intro A X φ env s S b S' hR hE hW q
  refine thenE q fun c S₁ e1 q => ?_
  refine wpAny_isTrue_BoolOp (wpAny_allTrue_And_cons (wp_mono' (ha A X φ env s S c S₁ hR hE hW e1) fun r s₁ ⟨φ₁, p₁, hr⟩ => ?_))
  have hr : r = c := hr
  subst hr
  cases r with
  | false => cases q; exact ⟨φ₁, p₁, rfl⟩
  | true =>
    refine wpAny_allTrue_And_cons (wp_mono' (hb A X φ₁ env s₁ S₁ b S' hR (hE.pre p₁.nx.pre) p₁.wd q) fun r s₂ h₂ => ?_)
    cases r with
    | false => exact .of p₁ h₂
    | true => exact wpAny_allTrue_And_nil (.of p₁ h₂)
theorem bok_or {x y : Expr} {pos : Pos} {Fa Fb : St → Option (Bool × St)} (ha : BOk G n fr x Fa) (hb : BOk G n fr y Fb) : BOk G n fr (.BoolOp .Or [x, y] pos) (eitherF Fa Fb) := by
  intro A X φ env s S b S' hR hE hW q
  refine thenE q fun c S₁ e1 q => ?_
  refine wpAny_isTrue_BoolOp (wpAny_allTrue_Or_cons (wp_mono' (ha A X φ env s S c S₁ hR hE hW e1) fun r s₁ ⟨φ₁, p₁, hr⟩ => ?_))
  have hr : r = c := hr
  subst hr
  cases r with
  | true => cases q; exact ⟨φ₁, p₁, rfl⟩
  | false =>
    refine wpAny_allTrue_Or_cons (wp_mono' (hb A X φ₁ env s₁ S₁ b S' hR (hE.pre p₁.nx.pre) p₁.wd q) fun r s₂ h₂ => ?_)
    cases r with
    | true => exact .of p₁ h₂
    | false => exact wpAny_allTrue_Or_nil (.of p₁ h₂)
/-! augmented stores -/
noncomputable def augF (Fx Fv : St → Option (AV × St)) (f : List AO → AV → AV → Option (AV × List AO)) (Fa : AV → St → Option St) (S : St) : Option (AFl × St) := thenO (two Fx Fv f S) fun v S₁ => (Fa v S₁).map (.next, ·)
theorem sok_aug {mg mb : Names} (K : GOk G mg mb) {x : Str} {xp pos : Pos} {op : Operator} {value : Expr} {Fv : St → Option (AV × St)} {f : List AO → AV → AV → Option (AV × List AO)} (hc : (x == ("__classdict__" : Str)) = false) (hv : EOk G n fr value Fv) (hf : P2Ok G n (inplaceOp op) VRel f) :
    SOk G n fr (.AugAssign (.Name x xp) op value pos) (augF (nameF mg mb fr x) Fv f (storeF fr x)) := by
  intro A X φ env s S a S' hR hE hW q
  refine thenE q fun v H₃ e q => ?_
  refine thenE e fun va S₁ e1 e => thenE e fun vb S₂ e2 e => thenE e fun v' H e3 e => mapE q fun S₃ e4 q => ?_
  cases q
  cases e
  refine wpAny_AugAssign_Name (wp_mono' (tok_loadName K hc A X φ env s S va S₁ hR hE hW e1) fun old s₁ ⟨φ₁, p₁, ho⟩ => ?_)
  refine wp_mono' (hv A X φ₁ env s₁ S₁ vb S₂ hR (hE.pre p₁.nx.pre) p₁.wd e2) fun r s₂ ⟨φ₂, p₂, hr⟩ => ?_
  refine wp_mono' (hf A X φ₂ s₂ S₂.hp va vb old r v H hR p₂.wd.hd (p₂.val p₁.wd ho) hr e3) fun z s₃ h₃ => ?_
  obtain ⟨φ₃, p₃, hz⟩ := h₃.lift p₂.wd
  have pp := (p₁.trans p₂).trans p₃
  exact wp_mono' (aok_store A X φ₃ env s₃ _ v z S' hR (hE.pre pp.nx.pre) p₃.wd hz e4) fun _ s₄ ⟨φ₄, p₄⟩ => ⟨φ₄, pp.trans p₄, trivial⟩
end
end Mine
end
section
open PySem PySem.W PyProof.Rows
set_option Elab.async false
set_option maxRecDepth 100000
set_option linter.all false
set_option autoImplicit false
namespace Mine
section
variable {G : Glob} {n : Nat} {fr : Fm}
noncomputable def itemS (H : List AO) (x : Str) (k : Int) : Option (AV × List AO) := if 0 ≤ k ∧ k < 4096 then (x.cps[k.toNat]?).map fun c => (.str ⟨#[c]⟩, H) else none
noncomputable def itemT (H : List AO) (l : List AV) (k : Int) : Option (AV × List AO) := if 0 ≤ k ∧ k < 4096 then (l[k.toNat]?).map (·, H) else none
noncomputable def itemL (H : List AO) (i : Nat) (k : Int) : Option (AV × List AO) := (listAt H i).bind fun l => if 0 ≤ k ∧ k < 4096 then (l[k.toNat]?).map (·, H) else none
noncomputable def itemD (H : List AO) (i : Nat) (x : Str) : Option (AV × List AO) := (dictAt H i).bind fun es => (es.lookup x).map (·, H)
noncomputable def itemA (H : List AO) (a i : AV) : Option (AV × List AO) := (on2 AV.str? AV.int? itemS H a i).or ((on2 AV.tup? AV.int? itemT H a i).or ((on2 AV.obj? AV.int? itemL H a i).or (on2 AV.obj? AV.str? itemD H a i)))
theorem seqIndex_of {k : Int} {m : Nat} (h0 : 0 ≤ k) (h1 : k.toNat < m) : seqIndex? k m = some k.toNat := by
  unfold seqIndex?
  have h2 : ¬ (k < 0) := by omega
  simp only [if_neg h2]
  rw [if_pos (by simp; omega)]
theorem dict_find {h : Heap} {X φ : List Addr} {es : List (Str × AV)} : ∀ {kvs : List (Str × Value)}, kvs.map (·.1) = es.map (·.1) → VRels h X φ (es.map (·.2)) (kvs.map (·.2)) → ∀ {x : Str} {v : AV}, es.lookup x = some v → ∃ r, valueAt kvs x = some r ∧ VRel h X φ v r := by
  induction es with
  | nil => intro kvs hk hv x v e; cases e
  | cons p es ih =>
    intro kvs hk hv x v e
    cases kvs with
    | nil => cases hk
    | cons q kvs =>
      obtain ⟨z, r⟩ := q
      obtain ⟨y, w⟩ := p
      obtain ⟨hz, hk'⟩ := List.cons.inj hk
      cases hz
      obtain ⟨_, _, ev, hr, hrs⟩ := hv.cons_inv
      cases ev
      by_cases q : x = z
      · subst q
        rw [List.lookup_cons_self] at e
        cases e
        exact ⟨r, by simp [valueAt], hr⟩
      · have q' : (x == z) = false := by simp [q]
        simp only [List.lookup, q'] at e
        obtain ⟨r', hr', hv'⟩ := ih hk' hrs e
        refine ⟨r', ?_, hv'⟩
        unfold valueAt at hr' ⊢
        have q2 : ¬ z = x := fun t => q t.symm
        rw [List.find?_cons_of_neg (by simpa using q2)]
        exact hr'
/-- an item's look-up: the type's own, and what it gives -/
structure GetOk (G : Glob) (f : List AO → AV → AV → Option (AV × List AO)) : Prop where
  run : ∀ {A : Around} {X φ : List Addr} {s : Shared} {H : List AO} {a i : AV} {ra ri : Value} {v : AV} {H' : List AO}, Hd G X φ H s → VRel s.heap X φ a ra → VRel s.heap X φ i ri → f H a i = some (v, H') →
    (∃ T id, s.TypeIs ra T ∧ typeLookup (.type T) "__getitem__" = pure (some (.builtin id))) ∧ wpAny (model G.prog G.w) A (getItem ra ri) (HAfter G X φ s VRel v H') noE s
theorem GetOk.or {f g : List AO → AV → AV → Option (AV × List AO)} (h : GetOk G f) (k : GetOk G g) : GetOk G fun H a b => (f H a b).or (g H a b) := ⟨fun hh ha hb e => orE e (fun e => h.run hh ha hb e) fun e => k.run hh ha hb e⟩
theorem GetOk.on2 {γ δ : Type} {p : AV → Option γ} {q : AV → Option δ} {ca : γ → AV} {cb : δ → AV} {f : List AO → γ → δ → Option (AV × List AO)} (hp : ∀ {a x}, p a = some x → a = ca x) (hq : ∀ {a x}, q a = some x → a = cb x)
    (h : ∀ {A : Around} {X φ : List Addr} {s : Shared} {H : List AO} {x : γ} {y : δ} {ra ri : Value} {v : AV} {H' : List AO}, Hd G X φ H s → VRel s.heap X φ (ca x) ra → VRel s.heap X φ (cb y) ri → f H x y = some (v, H') →
      (∃ T id, s.TypeIs ra T ∧ typeLookup (.type T) "__getitem__" = pure (some (.builtin id))) ∧ wpAny (model G.prog G.w) A (getItem ra ri) (HAfter G X φ s VRel v H') noE s) : GetOk G (Mine.on2 p q f) :=
  ⟨fun hh ha hb e => bindE e fun x e1 e => bindE e fun y e2 e => h hh (hp e1 ▸ ha) (hq e2 ▸ hb) e⟩
theorem get_item : GetOk G itemA :=
  .or (.on2 AV.str_of AV.int_of fun {A X φ s H x k ra ri v H'} hh ha hb e => iteE e fun hk e => mapE e fun c ec e => by
    cases e
    obtain ⟨t, rfl⟩ := ha.str_inv
    obtain ⟨u, rfl⟩ := hb.int_inv
    have hl : k.toNat < x.length := (Array.getElem?_eq_some_iff.mp ec).1
    exact ⟨⟨"str", _, typeIs_str s _ _, F.slot_str_getitem.lookup⟩, PyProof.Rows.getItem_str (by simp; omega) (c := c) (by rw [seqIndex_of hk.1 hl]; exact ec) (HAfter.same (t := s.toks + 1) hh (.str _ _))⟩) <|
  .or (.on2 AV.tup_of AV.int_of fun {A X φ s H l k ra ri v H'} hh ha hb e => iteE e fun hk e => mapE e fun w ew e => by
    cases e
    obtain ⟨a, vs, rfl, hx, ht, hs⟩ := ha.tup_inv
    obtain ⟨u, rfl⟩ := hb.int_inv
    obtain ⟨r, hr, hv⟩ := hs.get ew
    have hl : k.toNat < l.length := (List.getElem?_eq_some_iff.mp ew).1
    exact ⟨⟨"tuple", _, ht.typeIs, slot_tuple_getitem.lookup⟩, PyProof.Rows.getItem_tuple ht (by omega) (by omega) (j := k.toNat) (seqIndex_of hk.1 (by rw [List.size_toArray, hs.length]; exact hl)) (x := r) (by simpa using hr) (HAfter.here hh hv)⟩) <|
  .or (.on2 AV.obj_of AV.int_of fun {A X φ s H i k ra ri v H'} hh ha hb e => bindE e fun l hl e => iteE e fun hk e => mapE e fun w ew e => hh.listE hl ha fun a vs m er hφ ho hvs => by
    cases e
    subst er
    obtain ⟨u, rfl⟩ := hb.int_inv
    obtain ⟨r, hr, hv⟩ := hvs.get ew
    exact ⟨⟨"list", _, ⟨_, ho, rfl⟩, slot_list_getitem.lookup⟩, wpAny_getItem_list ⟨_, ho, rfl, m, rfl⟩ hk.1 (by omega) (x := r) (by simpa using hr) (HAfter.here hh hv)⟩)
  (.on2 AV.obj_of AV.str_of fun {A X φ s H i x ra ri v H'} hh ha hb e => bindE e fun es hes e => mapE e fun w ew e => by
    cases e
    obtain ⟨a, rfl, hφ⟩ := ha.obj_inv
    obtain ⟨u, rfl⟩ := hb.str_inv
    obtain ⟨a', ha', o, es', ep, kvs, ho, h1, h2, h3, h4, h5, h6, hvs⟩ := hh.obj _ _ (dictAt_of hes)
    cases Option.some.inj (hφ.symm.trans ha')
    obtain ⟨r, hr, hv⟩ := dict_find h6 hvs ew
    exact ⟨⟨"dict", _, ⟨_, ho, h1.1⟩, slot_dict_getitem.lookup⟩, wpAny_getItem_of (knd := PySem.strKind G.prog G.w) (k := x) (strKind_is _ _ _ _) (Heap.DictOf.mapOf ⟨o, es', ep, ho, h1, h2, h3, h4, h5⟩) hr (HAfter.same (t := s.toks + 1) hh hv)⟩)
theorem subscripted_eq (slice : Expr) (o i : Value) : ∃ vs, subscripted slice false o i = operate vs (getItem o i) := by
  cases slice with
  | Slice a b c p => cases c <;> exact ⟨_, rfl⟩
  | _ => exact ⟨_, rfl⟩
theorem subscript_run {A : Around} {value slice : Expr} {o i : Value} {T id : String} {Q : Value → Shared → Prop} {s : Shared} (hT : s.TypeIs o T) (hl : typeLookup (.type T) "__getitem__" = pure (some (.builtin id))) (h : wpAny (model G.prog G.w) A (getItem o i) Q noE s) :
    wpAny (model G.prog G.w) A (do let r ← subscripted slice (← getitemInPython o) o i; letTemporaryGo value o r; pure r) Q noE s := by
  obtain ⟨vs, e⟩ := subscripted_eq slice o i
  have fin : wpAny (model G.prog G.w) A (subscripted slice false o i) (fun r s₃ => wpAny (model G.prog G.w) A (letTemporaryGo value o r >>= fun _ => pure r) Q noE s₃) noE s := by
    rw [e]
    exact wpAny_operating (wpAny_mono h (fun r s₃ h₃ => wpAny_bind (wpAny_letTemporaryGo (wpAny_pure h₃))) fun _ _ x => x)
  refine wpAny_bind ?_
  rw [getitemInPython_of_ne hT.not_modules]
  refine wpAny_bind (wpAny_specialOf hT hl ?_)
  first
    | exact wpAny_pure (wpAny_bind fin)
    | exact wpAny_bind (wpAny_pure (wpAny_bind fin))
    | exact wpAny_bind fin
theorem eok_item {value slice : Expr} {pos : Pos} {Fv Fi : St → Option (AV × St)} (hv : EOk G n fr value Fv) (hi : EOk G n fr slice Fi) : EOk G n fr (.Subscript value slice pos) (two Fv Fi itemA) := by
  intro A X φ env s S a S' hR hE hW h
  first | refine thenE h fun va S₁ e1 h => ?_ | refine map2E h fun va S₁ e1 h => ?_
  first | refine thenE h fun vb S₂ e2 h => ?_ | refine map2E h fun vb S₂ e2 h => ?_
  first | refine thenE h fun v H e3 h => ?_ | refine map2E h fun v H e3 h => ?_
  cases h
  show wpAny _ A (eval (.Subscript value slice pos) env) _ _ _
  rw [eval_Subscript]
  refine wp_then (hv A X φ env s S va S₁ hR hE hW e1) fun x s₁ ⟨φ₁, p₁, hx⟩ => ?_
  refine wpAny_bind (wpAny_holding (wp_mono' (hi A X φ₁ env s₁ S₁ vb S₂ hR (hE.pre p₁.nx.pre) p₁.wd e2) fun y s₂ ⟨φ₂, p₂, hy⟩ => ?_))
  refine wpAny_bind (wpAny_standAt ?_)
  have hx₂ := p₂.val p₁.wd hx
  obtain ⟨⟨T, id, hT, hl⟩, run⟩ := get_item.run (A := A) p₂.wd.hd hx₂ hy e3
  refine subscript_run hT hl (wp_mono' run fun z s₃ h₃ => ?_)
  exact .of (p₁.trans p₂) (h₃.lift p₂.wd)
end
end Mine
end
section
open PySem PySem.W PyProof.Rows
set_option Elab.async false
set_option maxRecDepth 100000
set_option linter.all false
set_option autoImplicit false
namespace Mine
noncomputable def PartRel : RelT (Option Int) Value := fun _ _ _ p r => match p with | none => r = .none | some i => ∃ t, r = .int i t
noncomputable abbrev PartOk (G : Glob) (n : Nat) (fr : Fm) (x : Option Expr) (F : St → Option (Option Int × St)) : Prop := TOk G n fr (fun env => evalPart x env) PartRel F
noncomputable def intP (F : St → Option (AV × St)) (S : St) : Option (Option Int × St) := thenO (F S) fun a S₁ => a.int?.map fun i => (some i, S₁)
noncomputable def pickA (l : List AV) (lo hi st : Option Int) : List AV :=
  ((sliceRange (sliceBounds lo hi st l.length).1 (sliceBounds lo hi st l.length).2.1 (sliceBounds lo hi st l.length).2.2).filterMap (l[·]?))
noncomputable def cutS (x : Str) (lo hi : Option Int) : Str :=
  if (1 == 1 && (Builtin.Str.strSliceIndices lo hi 1 x.length).length == x.length) = true then x else ⟨((Builtin.Str.strSliceIndices lo hi 1 x.length).filterMap (x.cps[·]?)).toArray⟩
noncomputable def sliceS (H : List AO) (lo hi st : Option Int) (x : Str) : Option (AV × List AO) := if st = none ∧ x.length ≤ 4096 ∧ (cutS x lo hi).length ≤ 4096 then some (.str (cutS x lo hi), H) else none
noncomputable def sliceL (H : List AO) (lo hi st : Option Int) (l : List AV) : Option (AV × List AO) := if st ≠ some 0 ∧ l.length ≤ 4096 then some (.obj H.length, H ++ [.list (pickA l lo hi st)]) else none
noncomputable def sliceA (kl : Addr → Option (List AV)) (H : List AO) (a : AV) (lo hi st : Option Int) : Option (AV × List AO) := (a.str?.bind (sliceS H lo hi st)).or ((a.obj?.bind fun i => (listAt H i).bind (sliceL H lo hi st)).or (a.ref?.bind fun a => (kl a).bind (sliceL H lo hi st)))
/-- lists that stand through the whole call -/
noncomputable def KLists (G : Glob) (kl : Addr → Option (List AV)) : Prop := ∀ a l, kl a = some l → ∃ vs n, (a, ({ cls := .type "list", data := .seq vs.toArray n } : Obj)) ∈ G.K ∧ ∀ h X φ, VRels h X φ l vs
section
variable {G : Glob} {n : Nat} {fr : Fm}
theorem part_none : PartOk G n fr none fun S => some (none, S) := by
  intro A X φ env s S a S' hR hE hW h
  cases h
  show wpAny _ A (evalPart none env) _ _ _
  rw [evalPart_none]
  exact wpAny_pure ⟨φ, .refl hW, rfl⟩
theorem part_some {e : Expr} {F : St → Option (AV × St)} (h : EOk G n fr e F) : PartOk G n fr (some e) (intP F) := by
  intro A X φ env s S a S' hR hE hW q
  refine thenE q fun a S₁ e1 q => mapE q fun i ei q => ?_
  cases q
  rw [AV.int_of ei] at e1
  show wpAny _ A (evalPart (some e) env) _ _ _
  rw [evalPart_some]
  refine wp_mono' (h A X φ env s S _ _ hR hE hW e1) fun r s₁ ⟨φ₁, p₁, hr⟩ => ⟨φ₁, p₁, ?_⟩
  exact hr.int_inv
theorem pick_rel {h : Heap} {X φ : List Addr} {l : List AV} {vs : List Value} (x : VRels h X φ l vs) : ∀ is : List Nat, VRels h X φ (is.filterMap (l[·]?)) (is.filterMap (vs[·]?))
  | [] => .nil
  | i :: r => by
    rcases x.nth i with ⟨h1, h2⟩ | ⟨v, w, h1, h2, h3⟩
    · rw [List.filterMap_cons_none h1, List.filterMap_cons_none h2]
      exact pick_rel x r
    · rw [List.filterMap_cons_some h1, List.filterMap_cons_some h2]
      exact .cons h3 (pick_rel x r)
theorem part_is {h X φ} {p : Option Int} {r : Value} (x : PartRel h X φ p r) : IsPart r p := by
  cases p with
  | none => cases x; exact .none
  | some i => obtain ⟨t, rfl⟩ := x; exact .int i t
theorem part_val {h X φ} {p : Option Int} {r : Value} (x : PartRel h X φ p r) : ∃ q : Option (Int × Tok), r = partValue q ∧ q.map (·.1) = p := by
  cases p with
  | none => cases x; exact ⟨none, rfl, rfl⟩
  | some i => obtain ⟨t, rfl⟩ := x; exact ⟨some (i, t), rfl, rfl⟩
theorem list_cut {A : Around} {X φ : List Addr} {H : List AO} {s : Shared} {a : Addr} {vs : List Value} {m : Nat} {l : List AV} {lo hi st : Option Int} {r1 r2 r3 : Value} (hh : Hd G X φ H s) (ho : s.heap.get? a = some { cls := .type "list", data := .seq vs.toArray m }) (hv : VRels s.heap X φ l vs)
    (h1 : IsPart r1 lo) (h2 : IsPart r2 hi) (h3 : IsPart r3 st) (hst : st ≠ some 0) (hz : l.length ≤ 4096) :
    wpAny (model G.prog G.w) A (getItem (.ref a) (.ref s.heap.objs.size)) (HAfter G X φ s VRel (.obj H.length) (H ++ [.list (pickA l lo hi st)])) noE { s with heap := s.heap.push { cls := .type "slice", data := .fields #[r1, r2, r3] } } := by
  have p₁ : HAfter G X φ s (fun _ _ _ (_ : Unit) (_ : Unit) => True) () H () { s with heap := s.heap.push { cls := .type "slice", data := .fields #[r1, r2, r3] } } := HAfter.push (t := s.toks) hh fun _ => trivial
  obtain ⟨φ₁, p₁, _⟩ := p₁
  generalize hs₁ : ({ s with heap := s.heap.push { cls := .type "slice", data := .fields #[r1, r2, r3] } } : Shared) = s₁ at p₁ ⊢
  have ho₁ : s₁.heap.get? a = some { cls := .type "list", data := .seq vs.toArray m } := by rw [← hs₁]; exact Heap.get?_push_of_some _ ho
  have hsl : s₁.heap.IsSliceOf s.heap.objs.size r1 r2 r3 := by rw [← hs₁]; exact Heap.IsSliceOf.new ..
  have hsz : vs.toArray.size = l.length := by rw [List.size_toArray, hv.length]
  refine wpAny_getItem_list_slice ⟨_, ho₁, rfl, m, rfl⟩ hsl h1 h2 h3 hst ?_ (by rw [hsz]; exact le_size hz)
  have hv₁ := p₁.vals hh hv
  refine HAfter.of p₁ (HAfter.new (t := s₁.toks) p₁.hd (fun tk => ?_) fun e tk => .obj e)
  refine ⟨(sliceRange (sliceBounds lo hi st l.length).1 (sliceBounds lo hi st l.length).2.1 (sliceBounds lo hi st l.length).2.2).filterMap (vs[·]?), 0, ?_, (pick_rel hv₁ _).mono tk ⟨_, rfl⟩⟩
  rw [Heap.get?_push_size _ rfl]
  unfold slicePick
  rw [hsz]
  simp
theorem slice_run {kl : Addr → Option (List AV)} (KL : KLists G kl) {A : Around} {X φ : List Addr} {H : List AO} {s : Shared} {a : AV} {ra : Value} {lo hi st : Option Int} {r1 r2 r3 : Value} {v : AV} {H' : List AO} (hh : Hd G X φ H s) (ha : VRel s.heap X φ a ra)
    (h1 : PartRel s.heap X φ lo r1) (h2 : PartRel s.heap X φ hi r2) (h3 : PartRel s.heap X φ st r3) (h : sliceA kl H a lo hi st = some (v, H')) :
    (∃ T id, Shared.TypeIs { s with heap := s.heap.push { cls := .type "slice", data := .fields #[r1, r2, r3] } } ra T ∧ typeLookup (.type T) "__getitem__" = pure (some (.builtin id))) ∧
    wpAny (model G.prog G.w) A (getItem ra (.ref s.heap.objs.size)) (HAfter G X φ s VRel v H') noE { s with heap := s.heap.push { cls := .type "slice", data := .fields #[r1, r2, r3] } } := by
  refine orE h (fun h => bindE h fun x ea h => iteE h fun hz hq => ?_) fun h => orE h (fun h => bindE h fun i ea h => bindE h fun l hl h => iteE h fun hz hq => ?_) fun h => bindE h fun b ea h => bindE h fun l hl h => iteE h fun hz hq => ?_
  · obtain ⟨rfl, hx, hx2⟩ := hz
    cases hq
    rw [AV.str_of ea] at ha
    obtain ⟨t, rfl⟩ := ha.str_inv
    refine ⟨⟨"str", _, typeIs_str _ _ _, F.slot_str_getitem.lookup⟩, ?_⟩
    obtain ⟨q1, rfl, e1⟩ := part_val h1
    obtain ⟨q2, rfl, e2⟩ := part_val h2
    cases h3
    refine wpAny_getItem_str_slice (l := q1) (u := q2) (st := none) ⟨_, Heap.get?_push_size _ rfl, rfl, rfl⟩ rfl ?_
    have pk : ∀ b o, s.heap.get? b = some o → (s.heap.push { cls := .type "slice", data := .fields #[partValue q1, partValue q2, .none] }).get? b = some o := fun b o e => Heap.get?_push_of_some _ e
    unfold sliceMade slicePicked
    rw [e1, e2]
    unfold cutS at hx2 ⊢
    split
    · rename_i hc
      rw [if_pos (show (1 == 1 && (Builtin.Str.strSliceIndices lo hi 1 x.length).length == x.length) = true from hc)]
      exact HAfter.all (t := s.toks) hh pk fun tk => .str _ _
    · rename_i hc
      rw [if_neg (show ¬ (1 == 1 && (Builtin.Str.strSliceIndices lo hi 1 x.length).length == x.length) = true from hc)] at hx2 ⊢
      exact ⟨le_size hx2, HAfter.all (t := s.toks + 1) hh pk fun tk => .str _ _⟩
  · cases hq
    rw [AV.obj_of ea] at ha
    refine hh.listE hl ha fun a vs m er hφ ho hvs => ?_
    subst er
    exact ⟨⟨"list", _, ⟨_, Heap.get?_push_of_some _ ho, rfl⟩, slot_list_getitem.lookup⟩, list_cut hh ho hvs (part_is h1) (part_is h2) (part_is h3) hz.1 hz.2⟩
  · cases hq
    rw [AV.ref_of ea] at ha
    cases ha.c_inv
    obtain ⟨vs, m, hm, hv⟩ := KL _ _ hl
    have ho := hh.kin _ hm
    exact ⟨⟨"list", _, ⟨_, Heap.get?_push_of_some _ ho, rfl⟩, slot_list_getitem.lookup⟩, list_cut hh ho (hv _ _ _) (part_is h1) (part_is h2) (part_is h3) hz.1 hz.2⟩
noncomputable def sliceF (kl : Addr → Option (List AV)) (Fv : St → Option (AV × St)) (Fl Fu Ft : St → Option (Option Int × St)) (S : St) : Option (AV × St) := thenO (Fv S) fun a S₁ => thenO (Fl S₁) fun lo S₂ => thenO (Fu S₂) fun hi S₃ => thenO (Ft S₃) fun st S₄ => (sliceA kl S₄.hp a lo hi st).map fun p => (p.1, ⟨p.2, S₄.loc⟩)
theorem PartRel.mono {h h' X φ φ'} {p : Option Int} {r : Value} (x : PartRel h X φ p r) : PartRel h' X φ' p r := x
theorem eok_slice {kl : Addr → Option (List AV)} (KL : KLists G kl) {value : Expr} {lower upper step : Option Expr} {p pos : Pos} {Fv : St → Option (AV × St)} {Fl Fu Ft : St → Option (Option Int × St)} (hv : EOk G n fr value Fv) (hl : PartOk G n fr lower Fl) (hu : PartOk G n fr upper Fu) (ht : PartOk G n fr step Ft) :
    EOk G n fr (.Subscript value (.Slice lower upper step p) pos) (sliceF kl Fv Fl Fu Ft) := by
  intro A X φ env s S a S' hR hE hW h
  first | refine thenE h fun va S₁ e1 h => ?_ | refine map2E h fun va S₁ e1 h => ?_
  first | refine thenE h fun lo S₂ e2 h => ?_ | refine map2E h fun lo S₂ e2 h => ?_
  first | refine thenE h fun hi S₃ e3 h => ?_ | refine map2E h fun hi S₃ e3 h => ?_
  first | refine thenE h fun st S₄ e4 h => ?_ | refine map2E h fun st S₄ e4 h => ?_
  first | refine thenE h fun v H e5 h => ?_ | refine map2E h fun v H e5 h => ?_
  cases h
  show wpAny _ A (eval (.Subscript value (.Slice lower upper step p) pos) env) _ _ _
  rw [eval_Subscript]
  refine wp_then (hv A X φ env s S va S₁ hR hE hW e1) fun x s₁ ⟨φ₁, p₁, hx⟩ => ?_
  refine wpAny_bind (wpAny_holding (wpAny_Slice ?_))
  refine wp_mono' (hl A X φ₁ env s₁ S₁ lo S₂ hR (hE.pre p₁.nx.pre) p₁.wd e2) fun r1 s₂ ⟨φ₂, p₂, h1⟩ => ?_
  refine wp_mono' (hu A X φ₂ env s₂ S₂ hi S₃ hR ((hE.pre p₁.nx.pre).pre p₂.nx.pre) p₂.wd e3) fun r2 s₃ ⟨φ₃, p₃, h2⟩ => ?_
  refine wp_mono' (ht A X φ₃ env s₃ S₃ st S₄ hR (((hE.pre p₁.nx.pre).pre p₂.nx.pre).pre p₃.nx.pre) p₃.wd e4) fun r3 s₄ ⟨φ₄, p₄, h3⟩ => ?_
  refine wpAny_bind (wpAny_standAt ?_)
  have hx₄ := p₄.val p₃.wd (p₃.val p₂.wd (p₂.val p₁.wd hx))
  obtain ⟨⟨T, id, hT, hlk⟩, run⟩ := slice_run KL (A := A) p₄.wd.hd hx₄ (r1 := r1) (r2 := r2) (r3 := r3) h1 h2 h3 e5
  refine subscript_run hT hlk (wp_mono' run fun z s₅ h₅ => ?_)
  exact .of (((p₁.trans p₂).trans p₃).trans p₄) (h₅.lift p₄.wd)
end
end Mine
end
section
open PySem PySem.W PyProof.Rows
set_option Elab.async false
set_option maxRecDepth 100000
set_option linter.all false
set_option autoImplicit false
namespace Mine
section
variable {G : Glob} {n : Nat} {fr : Fm}
theorem eok_dict0 {pos : Pos} : EOk G n fr (.Dict [] [] pos) fun S => some (.obj S.hp.length, ⟨S.hp ++ [.dict []], S.loc⟩) := by
  intro A X φ env s S a S' hR hE hW h
  cases h
  refine wpAny_Dict_empty ?_
  refine HAfter.lift hW (HAfter.new (t := s.toks) hW.hd (fun tk => ?_) fun e tk => .obj e)
  obtain ⟨o, es, ep, h1, h2, h3, h4, h5, h6⟩ := Heap.DictOf.new (knd := PySem.strKind G.prog G.w) s.heap
  exact ⟨o, es, ep, [], h1, h2, h3, h4, h5, h6, rfl, .nil⟩
noncomputable def setItemA (H : List AO) (a i v : AV) : Option (List AO) := a.obj?.bind fun n => i.str?.bind fun x => (dictAt H n).bind fun es => if es.lookup x = none ∧ es.length ≤ 4096 then some (H.set n (.dict (es ++ [(x, v)]))) else none
theorem lookup_none {β : Type} {x : Str} : ∀ {es : List (Str × β)}, (es.lookup x).isNone = true → ∀ p ∈ es, p.1 ≠ x
  | [], _, p, hp => by cases hp
  | (y, w) :: r, h, p, hp => by
    by_cases q : x = y
    · subst q; simp at h
    · have q' : (x == y) = false := by simp [q]
      simp only [List.lookup, q'] at h
      rcases List.mem_cons.mp hp with z | z
      · rw [z]; exact fun t => q t.symm
      · exact lookup_none h p z
theorem run_setItem {A : Around} {X φ : List Addr} {H : List AO} {s : Shared} {a i v : AV} {ra ri rv : Value} {H' : List AO} (hh : Hd G X φ H s) (ha : VRel s.heap X φ a ra) (hi : VRel s.heap X φ i ri) (hv : VRel s.heap X φ v rv) (h : setItemA H a i v = some H') :
    wpAny (model G.prog G.w) A (setItem ra ri rv) (fun _ s' => ∃ φ', HPt G X φ s H' φ' s') noE s := by
  refine bindE h fun n ea hb => bindE hb fun x ei hb => bindE hb fun es hes hb => iteE hb fun hx hb => ?_
  cases hb
  rw [AV.obj_of ea] at ha
  rw [AV.str_of ei] at hi
  obtain ⟨a, rfl, h0⟩ := ha.obj_inv
  obtain ⟨t, rfl⟩ := hi.str_inv
  obtain ⟨a', ha', o, es', ep, kvs, ho, h1, h2, h3, h4, h5, h6, hvs⟩ := hh.obj _ _ (dictAt_of hes)
  cases Option.some.inj (h0.symm.trans ha')
  have hne : ∀ kv ∈ kvs, kv.1 ≠ x := fun kv hkv => by
    have : kv.1 ∈ es.map (·.1) := by rw [← h6]; exact List.mem_map.mpr ⟨kv, hkv, rfl⟩
    obtain ⟨p, hp, e⟩ := List.mem_map.mp this
    rw [← e]
    exact lookup_none (by rw [hx.1]; rfl) p hp
  have hst : stored kvs x rv = kvs ++ [(x, rv)] := by
    unfold stored
    rw [if_neg]
    intro z
    obtain ⟨kv, hkv, e⟩ := List.any_eq_true.mp z
    exact hne kv hkv (by simpa using e)
  have hlen : kvs.length = es.length := by
    have := congrArg List.length h6
    simpa using this
  refine wpAny_setItem_pairs (knd := PySem.strKind G.prog G.w) (k := x) (strKind_is _ _ _ _) ⟨o, es', ep, ho, h1, h2, h3, h4, h5⟩ (fun h' hd hs => ?_) (by rw [hlen]; exact le_size hx.2)
  rw [hst] at hd
  obtain ⟨o₂, es₂, ep₂, ho₂, k1, k2, k3, k4, k5⟩ := hd
  obtain ⟨φ', p, _⟩ := HAfter.turn (rel := fun _ _ _ (_ : Unit) (_ : Unit) => True) (a := ()) (r := ()) (t := s.toks + 1) (ao := .dict (es ++ [(x, v)])) hh h0 (fun c o hc e => (hs.2 c hc).trans e) (fun tk =>
    ⟨o₂, es₂, ep₂, _, ho₂, k1, k2, k3, k4, k5, by simp [h6], by rw [List.map_append, List.map_append]; exact (hvs.mono tk (.refl φ)).append (.cons (hv.mono tk (.refl φ)) .nil)⟩) (fun _ => trivial)
  exact ⟨φ', p⟩
noncomputable def itemStore (Fo Fi : St → Option (AV × St)) (v : AV) (S : St) : Option St := thenO (Fo S) fun a S₁ => thenO (Fi S₁) fun i S₂ => (setItemA S₂.hp a i v).map (⟨·, S₂.loc⟩)
theorem aok_item {o i : Expr} {pos : Pos} {Fo Fi : St → Option (AV × St)} (ho : EOk G n fr o Fo) (hi : EOk G n fr i Fi) : AsOk G n fr (fun env v => assign (.Subscript o i pos) env v) (itemStore Fo Fi) := by
  intro A X φ env s S v r S' hR hE hW hv q
  first | refine thenE q fun va S₁ e1 q => ?_ | refine map2E q fun va S₁ e1 q => ?_
  first | refine thenE q fun vi S₂ e2 q => ?_ | refine map2E q fun vi S₂ e2 q => ?_
  first | refine bindE q fun H e3 q => ?_ | refine mapE q fun H e3 q => ?_
  cases q
  show wpAny _ A (assign (.Subscript o i pos) env r) _ _ _
  rw [assign_Subscript]
  refine wpAny_bind (wpAny_holding (wp_mono' (ho A X φ env s S va S₁ hR hE hW e1) fun ov s₁ ⟨φ₁, p₁, h1⟩ => ?_))
  refine wpAny_bind (wpAny_holding (wp_mono' (hi A X φ₁ env s₁ S₁ vi S₂ hR (hE.pre p₁.nx.pre) p₁.wd e2) fun iv s₂ ⟨φ₂, p₂, h2⟩ => ?_))
  refine wpAny_bind (wpAny_standAt (wpAny_bind (wpAny_holding (wp_mono' (run_setItem p₂.wd.hd (p₂.val p₁.wd h1) h2 (p₂.val p₁.wd (p₁.val hW hv)) e3) fun _ s₃ ⟨φ₃, p₃⟩ => ?_))))
  exact wpAny_release ⟨φ₃, (p₁.trans p₂).trans (p₃.lift p₂.wd)⟩
end
end Mine
end
section
open PySem PySem.W PyProof.Rows
set_option Elab.async false
set_option maxRecDepth 100000
set_option linter.all false
set_option autoImplicit false
namespace Mine
section
variable {G : Glob} {n : Nat}
noncomputable def lenK : FnT := fun H args kw => (k1 AV.str? (fun H x => if x.length ≤ 4096 then some (.int x.length, H) else none) H args kw).or (k1 AV.obj? (fun H i => (listAt H i).bind fun l => if l.length ≤ 4096 then some (.int l.length, H) else none) H args kw)
theorem fok_len : FOk G n (.builtin "len") lenK :=
  .or (.k1 AV.str_of fun hR hh ha e => iteE e fun hz e => someE e fun e1 e2 => by
    subst e1 e2
    obtain ⟨t, rfl⟩ := ha.str_inv
    exact PyProof.Rows.len_str (by omega) (HAfter.same (t := _) hh (.int _ _)))
  (.k1 AV.obj_of fun hR hh ha e => bindE e fun l hl e => iteE e fun hz e => someE e fun e1 e2 => hh.listE hl ha fun a vs m er hφ ho hvs => by
    subst e1 e2 er
    have hsz : vs.toArray.size = l.length := hvs.length
    rw [← hsz]
    exact PyProof.Rows.len_list (items := vs.toArray) ⟨_, ho, rfl, m, rfl⟩ (by rw [hsz]; omega) (HAfter.same (t := _) hh (.int _ _)))
noncomputable def intK : FnT := k1 AV.int? fun H i => some (.int i, H)
theorem fok_int : FOk G n (.type "int") intK :=
  .k1 AV.int_of fun hR hh ha e => someE e fun e1 e2 => by
    subst e1 e2
    obtain ⟨t, rfl⟩ := ha.int_inv
    exact call_int_int (HAfter.here hh (.int _ _))
noncomputable def typeK : FnT := fun H args kw => (k1 AV.str? (fun H x => some (.c (.type "str"), H)) H args kw).or (k1 AV.obj? (fun H i => (listAt H i).bind fun l => some (.c (.type "list"), H)) H args kw)
theorem fok_type : FOk G n (.type "type") typeK :=
  .or (.k1 AV.str_of fun {A X φ s H x ra v H'} hR hh ha e => someE e fun e1 e2 => by
    subst e1 e2
    obtain ⟨t, rfl⟩ := ha.str_inv
    exact call_type_of (typeIs_str s _ _) (by decide) (HAfter.here hh (.c _)))
  (.k1 AV.obj_of fun hR hh ha e => bindE e fun l hl e => someE e fun e1 e2 => hh.listE hl ha fun a vs m er hφ ho hvs => by
    subst e1 e2 er
    exact call_type_of ⟨_, ho, rfl⟩ (by decide) (HAfter.here hh (.c _)))
/-! a list's methods -/
noncomputable def appendK : FnT := k2 AV.obj? some fun H i v => (listAt H i).bind fun l => if l.length ≤ 4096 then some (.c .none, H.set i (.list (l ++ [v]))) else none
theorem fok_append : FOk G n (.builtin "list.append") appendK :=
  .k2 AV.obj_of (cb := id) Option.some.inj fun hR hh ha hb e => bindE e fun l hl e => iteE e fun hz e => someE e fun e1 e2 => by
    subst e1 e2
    obtain ⟨a, rfl, h0⟩ := ha.obj_inv
    exact append_run hh h0 (listAt_of hl) hb hz
noncomputable def popK : FnT := k2 AV.obj? AV.int? fun H i k => (listAt H i).bind fun l => l.head?.bind fun v => if k = 0 ∧ l.tail.length ≤ 4095 then some (v, H.set i (.list l.tail)) else none
theorem fok_pop : FOk G n (.builtin "list.pop") popK :=
  .k2 AV.obj_of AV.int_of fun {A X φ s H i j ra rb v H'} hR hh ha hb e => bindE e fun l hl e => bindE e fun w hw e => iteE e fun hz e => someE e fun e1 e2 => hh.listE hl ha fun a vs m er hφ ho hvs => by
    obtain ⟨rfl, hz⟩ := hz
    subst e1 e2 er
    obtain ⟨t, rfl⟩ := hb.int_inv
    cases l with
    | nil => cases hw
    | cons x l =>
      cases Option.some.inj hw
      obtain ⟨r, rs, rfl, hr, hrs⟩ := hvs.cons_inv
      refine call_meets F.slot_list_pop ⟨_, ho, rfl⟩ F.entry_list_pop (F.args_list_pop_2 _ _) (PySem.MeetsSeq.list_pop_at _ (r :: rs).toArray m 0 _ 0 r (by decide) (seqIndex_of (Int.le_refl 0) (by simp)) rfl (by rw [List.size_toArray, List.length_cons, hrs.length]; exact le_size (Nat.succ_le_succ hz))) ⟨ho, ?_⟩
      have hI := IsL.update (n := m) (h := s.heap) (items := (r :: rs).toArray) ho (fun xs => xs.eraseIdxIfInBounds 0)
      exact HAfter.turn (t := s.toks) hh hφ (fun c o hc e => (Heap.get?_update_ne _ _ _ _ hc).trans e) (fun tk => ⟨rs, _, by simpa using hI, hrs.mono tk (.refl φ)⟩) fun tk => hr.mono tk (.refl φ)
end
end Mine
end
section
open PySem PySem.W PyProof.Rows
set_option Elab.async false
set_option maxRecDepth 100000
set_option linter.all false
set_option autoImplicit false
namespace Mine
section
variable {G : Glob} {n : Nat}
theorem hd_over {X φ fp : List Addr} {H : List AO} {s s' : Shared} (h : Hd G (fp ++ X) φ H s) (hd : ∀ b ∈ fp, b ∉ X) (ho : OverAt s fp s') : Hd G X φ H s' ∧ ∀ b o, s.heap.get? b = some o → b ∉ fp → s'.heap.get? b = some o := by
  obtain ⟨h', t', rfl, hk⟩ := ho
  have tk : TupK (fp ++ X) s.heap h' := fun a vs ⟨o, ho, r⟩ hx => ⟨o, hk a o (fun q => hx (List.mem_append.mpr (.inl q))) ho, r⟩
  have less : ∀ x ∈ X, x ∈ fp ++ X := fun x hx => List.mem_append.mpr (.inr hx)
  have hfφ : ∀ b ∈ fp, b ∉ φ := fun b hb => h.xφ b (List.mem_append.mpr (.inl hb))
  refine ⟨⟨fun p hp => hk _ _ (fun q => h.kX p hp (List.mem_append.mpr (.inl q))) (h.kin p hp), h.kφ, fun p hp q => h.kX p hp (less _ q), h.nd, fun x hx => ?_, fun x hx => h.xφ x (less x hx), h.len, fun i ao e => ?_, h.os, h.gens⟩, fun b o e q => hk b o q e⟩
  · obtain ⟨o, ho⟩ := h.xx x (less x hx)
    exact ⟨o, hk x o (fun q => hd x q hx) ho⟩
  · obtain ⟨a, ha, r⟩ := h.obj i ao e
    exact ⟨a, ha, (r.mono tk (.refl φ) fun o ho => hk a o (fun q => hfφ a q (List.mem_of_getElem? ha)) ho).less less⟩
theorem hd_grow {X φ fp : List Addr} {H : List AO} {s : Shared} {h' : Heap} {t : Nat} (h : Hd G X φ H s) (k : ∀ b o, s.heap.get? b = some o → h'.get? b = some o) (hf : ∀ b ∈ fp, s.heap.get? b = none) (he : ∀ b ∈ fp, ∃ o, h'.get? b = some o) :
    Hd G (fp ++ X) φ H { s with heap := h', toks := t } := by
  have ne : ∀ {b : Addr} {o : Obj}, s.heap.get? b = some o → b ∉ fp := fun e q => by rw [hf _ q] at e; cases e
  refine ⟨fun p hp => k _ _ (h.kin p hp), h.kφ, fun p hp q => ?_, h.nd, fun x hx => ?_, fun x hx => ?_, h.len, fun i ao e => ?_, h.os, h.gens⟩
  · rcases List.mem_append.mp q with q | q
    · exact ne (h.kin p hp) q
    · exact h.kX p hp q
  · rcases List.mem_append.mp hx with q | q
    · exact he x q
    · obtain ⟨o, ho⟩ := h.xx x q; exact ⟨o, k _ _ ho⟩
  · rcases List.mem_append.mp hx with q | q
    · intro z; obtain ⟨o, ho, _⟩ := h.mem z; exact ne ho q
    · exact h.xφ x q
  · obtain ⟨a, ha, r⟩ := h.obj i ao e
    exact ⟨a, ha, r.more k hf⟩
/-- a list's end is pushed, one by one -/
theorem extend_loop {A : Around} {R : Result → Shared → Prop} {X : List Addr} {i : Nat} {a it : Addr} {res : Value} (hA : A.handled = none) (hit : it ∉ X) (l : List AV) :
    ∀ (acc : List AV) (H : List AO) (φ : List Addr) (s : Shared), Hd G ([it] ++ X) φ H s → φ[i]? = some a → H[i]? = some (.list acc) → Leaf s.heap ([it] ++ X) φ (.seq l) it → acc.length + l.length ≤ 4096 →
      (∀ s', Hd G X φ (H.set i (.list (acc ++ l))) s' → (∀ b o, s.heap.get? b = some o → b ∉ φ → b ≠ it → s'.heap.get? b = some o) → (∀ b o, s.heap.get? b = some o → b ≠ it → ∃ o', s'.heap.get? b = some o') → R (.ok (.ret res)) s') →
      codeAny (model G.prog G.w) A (.builtin "list.extend.loop" ⟨[.ref a, .ref it, res], []⟩) R s := by
  induction l with
  | nil =>
    intro acc H φ s hh ha hl hL hz hr
    refine codeAny_builtin F.entry_extend_loop ?_
    rw [Around.under_plainId F.plain_extend_loop _]
    show wpAny _ A.in1 (pyNext (.ref it) >>= _) _ _ s
    refine wpAny_bind (wpAny_mono (leaf_end (A := A.in1) hA hh hL rfl) (fun r s' ⟨hrn, h', t', hs, hk⟩ => ?_) fun _ _ e => e.elim)
    subst hrn
    obtain ⟨hd, hk'⟩ := hd_over (fp := [it]) (s' := s') hh (by simpa using hit) ⟨h', t', hs, fun b o q e => hk b o (by simpa using q) e⟩
    refine wpAny_pure (hr s' ?_ (fun b o e _ q => hk' b o e (by simpa using q)) fun b o e q => ⟨o, hk' b o e (by simpa using q)⟩)
    have : H.set i (.list (acc ++ [])) = H := by
      rw [List.append_nil]
      obtain ⟨hl', e⟩ := List.getElem?_eq_some_iff.mp hl
      rw [← e]; exact List.set_getElem_self hl'
    rw [this]; exact hd
  | cons v l ih =>
    intro acc H φ s hh ha hl hL hz hr
    refine codeAny_builtin F.entry_extend_loop ?_
    rw [Around.under_plainId F.plain_extend_loop _]
    show wpAny _ A.in1 (pyNext (.ref it) >>= _) _ _ s
    refine wpAny_bind (wpAny_mono (leaf_item (A := A.in1) hh (by simp) hL rfl) (fun r s' ⟨rv, hrv, h', t', hs, hk, hv, hL'⟩ => ?_) fun _ _ e => e.elim)
    subst hrv; subst hs
    have hlx : ∃ o, h'.get? it = some o := by obtain ⟨o, _, _, ho, _⟩ := hL'.obj; exact ⟨o, ho⟩
    obtain ⟨tk, hd₁⟩ := hh.step (h' := h') (t := t') [it] (fun b o e q => hk b o (by simpa using q) e) (fun x _ q => by simp at q; subst q; exact hlx) (fun b hb => by simp at hb; subst hb; exact ⟨hh.xφ _ (by simp), fun p hp q => hh.kX p hp (by simp [q]), .inl (by simp)⟩)
    obtain ⟨a', ha', vs, m, ho, hvs⟩ := hd₁.obj _ _ hl
    cases Option.some.inj (ha.symm.trans ha')
    show wpAny _ A.in1 (updateSeq a (·.push rv) >>= _) _ _ _
    have hzl : vs.toArray.size ≤ 4095 := by
      rw [List.size_toArray, hvs.length]
      simp only [List.length_cons] at hz; omega
    refine wpAny_bind (wpAny_updateSeq ho rfl (wpAny_pure ⟨plainId_quiet F.plain_extend_loop _, ?_⟩) (le_size (by omega)) (by show (vs.toArray.push rv).size ≤ sizeLine + 1; rw [Array.size_push]; exact Nat.succ_le_succ (le_size (by omega))))
    have hs₂ : Heap.SameBut a h' (h'.update a (Obj.mapSeq (·.push rv))) := Heap.SameBut.update ..
    have ho₂ := Heap.get?_update_self (Obj.mapSeq (·.push rv)) ho rfl
    obtain ⟨tk₂, hd₂⟩ := Hd.turn (t := t') (h' := h'.update a (Obj.mapSeq (·.push rv))) (ao := .list (acc ++ [v])) hd₁ ha hs₂.extBut (fun tk₂ => ⟨vs ++ [rv], m + 1, by rw [ho₂, Obj.mapSeq_push_plain]; simp, (hvs.mono tk₂ (.refl φ)).append (.cons (hv.mono tk₂ (.refl φ)) .nil)⟩)
    have ait : a ≠ it := fun q => hh.xφ it (by simp) (by rw [← q]; exact List.mem_of_getElem? ha)
    have hil : i < H.length := (List.getElem?_eq_some_iff.mp hl).1
    refine ih (acc ++ [v]) (H.set i (.list (acc ++ [v]))) φ _ hd₂ ha (by rw [List.getElem?_set_self hil]) (hL'.mono tk₂ (.refl φ) fun o e => hs₂.extBut _ _ (Ne.symm ait) e) (by simp only [List.length_append, List.length_cons, List.length_nil] at hz ⊢; omega) fun s' hd' hk' hst => ?_
    refine hr s' ?_ (fun b o e hb hbi => ?_) (fun b o e hbi => ?_)
    · rw [List.set_set, List.append_assoc] at hd'
      exact hd'
    · exact hk' b o (hs₂.extBut b o (fun q => hb (by rw [q]; exact List.mem_of_getElem? ha)) (hk b o hbi e)) hb hbi
    · by_cases q : b = a
      · subst q
        exact hst b _ ho₂ hbi
      · exact hst b o (hs₂.extBut b o q (hk b o hbi e)) hbi
noncomputable def extL (H : List AO) (i j : Nat) : Option (AV × List AO) := (listAt H i).bind fun l => (listAt H j).bind fun m => if l.length + m.length ≤ 4096 then some (.c .none, H.set i (.list (l ++ m))) else none
noncomputable def extS (H : List AO) (i : Nat) (x : Str) : Option (AV × List AO) := (listAt H i).bind fun l => if l.length + x.cps.toList.length ≤ 4096 ∧ x.cps.all (· < 128) then some (.c .none, H.set i (.list (l ++ x.cps.toList.map chrA))) else none
noncomputable def extendK : FnT := fun H args kw => (k2 AV.obj? AV.obj? extL H args kw).or (k2 AV.obj? AV.str? extS H args kw)
theorem hint_str {A : Around} {x : Str} {t : Tok} {Q : Bool → Shared → Prop} {E : Value → Shared → Prop} {s : Shared} (h : Q false s) : wpAny (model G.prog G.w) A (Builtin.List.listLengthHint (.str x t)) Q E s := by
  unfold Builtin.List.listLengthHint
  refine wpAny_bind (wpAny_specialOf (typeIs_str s x t) F.slot_str_len.lookup ?_)
  generalize hid : ("str.__len__" : String) = id0
  wp_delta
  rw [show splitId id0 = some ("str", "__len__") from by subst hid; decide +kernel]
  subst hid
  refine wpAny_bind (wpAny_isInstance (T := "str") (b := true) (typeIs_str s x t) (by rw [isSubtype_type]; kernel_rfl) ?_)
  refine wpAny_ite_split (fun hab => absurd hab (by decide)) (fun _ => ?_)
  refine wpAny_ite_split (fun _ => ?_) (fun hab => absurd (by decide +kernel) hab)
  refine wpAny_bind (wpAny_typeOf (typeIs_str s x t) ?_)
  exact wpAny_pure h
theorem fok_extend : FOk G n (.builtin "list.extend") extendK :=
  .or (.k2 AV.obj_of AV.obj_of fun {A X φ s H i j ra rb v H'} hR hh ha hb e => bindE e fun l hl e => bindE e fun m hm e => iteE e fun hz e => someE e fun e1 e2 => hh.listE hl ha fun a ws k er hφ ho hws => hh.listE hm hb fun b us k' er' hφ' ho' hus => by
    subst e1 e2 er er'
    have hsz : ws.toArray.size + us.toArray.size ≤ sizeLine := by rw [List.size_toArray, List.size_toArray, hws.length, hus.length]; exact le_size hz
    refine call_meets F.slot_list_extend ⟨_, ho, rfl⟩ F.entry_list_extend (F.args_list_extend_2 _ _) (AutoSeq1.list_extend_list_list_0 a ws.toArray k b us.toArray k' (extend_door hsz) (Nat.le_trans (Nat.le_add_right _ _) hsz) (Nat.le_succ_of_le hsz)) ⟨ho, ho', ?_⟩
    have hI := IsL.update (n := k) (h := s.heap) (items := ws.toArray) ho (fun xs => xs ++ us.toArray)
    exact HAfter.turn (t := s.toks) hh hφ (fun c o hc e => (Heap.get?_update_ne _ _ _ _ hc).trans e) (fun tk => ⟨ws ++ us, _, by simpa using hI, (hws.mono tk (.refl φ)).append (hus.mono tk (.refl φ))⟩) fun _ => .c _)
  (.k2 AV.obj_of AV.str_of fun {A X φ s H i x ra rb v H'} hR hh ha hb e => bindE e fun l hl e => iteE e fun hz e => someE e fun e1 e2 => hh.listE hl ha fun a ws k er hφ ho hws => by
    subst e1 e2 er
    obtain ⟨t, rfl⟩ := hb.str_inv
    have hT : s.TypeIs (.ref a) "list" := ⟨_, ho, rfl⟩
    refine wpAny_call (codeAny_call_builtin F.slot_list_extend.plain F.entry_list_extend (F.slot_list_extend.check _ _ _ _ _ _ _ _ hT (F.args_list_extend_2 _ _) ?_))
    show wpAny _ _ (Builtin.List.listExtendWith (.ref a) (.str x t) .none) _ _ s
    unfold Builtin.List.listExtendWith
    refine wpAny_bind (wpAny_typeOf (typeIs_str s x t) ?_)
    have h1 : Builtin.List.listSameRef (.ref a) (.str x t) = false := rfl
    have h2 : (Value.type "str" == Value.type "list") = false := by decide
    have h3 : (Value.type "str" == Value.type "tuple") = false := by decide
    simp only [h1, h2, h3, Bool.or_false, Bool.false_eq_true, if_false]
    refine wpAny_bind (wpAny_pyIter_ascii hz.2 ?_)
    refine wpAny_bind (wpAny_holding (hint_str ?_))
    refine wpAny_ite_split (fun hab => absurd hab (by decide +kernel)) (fun _ => wpAny_pure ⟨plainId_quiet F.plain_extend_loop _, ?_⟩)
    have fn : ∀ b ∈ [s.heap.objs.size], s.heap.get? b = none := fun b hb => by simp at hb; subst hb; exact fresh_none
    have hX : s.heap.objs.size ∉ X := fun q => by obtain ⟨o, ho⟩ := hh.xx _ q; rw [fresh_none] at ho; cases ho
    have pk : ∀ b o', s.heap.get? b = some o' → (s.heap.push { cls := .type "str_ascii_iterator", data := .fields #[.str x t, .int 0 0] }).get? b = some o' := fun b o' e => Heap.get?_push_of_some _ e
    have hd := hd_grow (fp := [s.heap.objs.size]) (t := s.toks) hh pk fn (fun b hb => by simp at hb; subst hb; exact ⟨_, Heap.get?_push_size _ rfl⟩)
    refine extend_loop (X := X) (i := i) hR.handled hX (x.cps.toList.map chrA) l H φ _ hd hφ (listAt_of hl) (Leaf.str (i := 0) ⟨_, Heap.get?_push_size _ rfl, rfl, rfl⟩) (by rw [List.length_map]; exact hz.1) fun s' hd' hk' hst => ?_
    exact ⟨φ, ⟨.refl _ _, hd', fun b o e q => hk' b o (pk b o e) q (fun z => by rw [z, fresh_none] at e; cases e), fun b o e => hst b o (pk b o e) (fun z => by rw [z, fresh_none] at e; cases e)⟩, .c _⟩)
end
end Mine
end
section
open PySem PySem.W PyProof.Rows
set_option Elab.async false
set_option maxRecDepth 100000
set_option linter.all false
set_option autoImplicit false
namespace Mine
section
variable {G : Glob} {n : Nat}
noncomputable def textsOf : List AV → Option (List Str)
  | [] => some []
  | a :: r => a.str?.bind fun x => (textsOf r).bind fun xs => some (x :: xs)
theorem strs_rel {h : Heap} {X φ : List Addr} {l : List AV} {vs : List Value} (hv : VRels h X φ l vs) : ∀ {xs : List Str}, textsOf l = some xs → ∃ ps : List (Str × Tok), vs = strValues ps ∧ ps.map (·.1) = xs :=
  hv.ind (P := fun l vs => ∀ {xs : List Str}, textsOf l = some xs → ∃ ps : List (Str × Tok), vs = strValues ps ∧ ps.map (·.1) = xs) (fun e => by cases e; exact ⟨[], rfl, rfl⟩) fun {v r l vs} a _ ih xs e => bindE e fun x hx e => bindE e fun ys hy e => by
    rw [AV.str_of hx] at a
    obtain ⟨t, rfl⟩ := a.str_inv
    obtain ⟨ps, rfl, rfl⟩ := ih hy
    cases e
    exact ⟨(x, t) :: ps, rfl, rfl⟩
noncomputable def joinK : FnT := k2 AV.str? AV.obj? fun H sep i => (listAt H i).bind fun l => (textsOf l).bind fun xs => if JoinOk sep xs = true then some (.str (Txt.join sep xs), H) else none
theorem fok_join : FOk G n (.builtin "str.join") joinK :=
  .k2 AV.str_of AV.obj_of fun {A X φ s H sep i ra rb v H'} hR hh ha hb e => bindE e fun l hl e => bindE e fun xs hxs e => iteE e fun hok e => someE e fun e1 e2 => hh.listE hl hb fun a ws k er hφ ho hws => by
    subst e1 e2 er
    obtain ⟨t, rfl⟩ := ha.str_inv
    obtain ⟨ps, rfl, rfl⟩ := strs_rel hws hxs
    have hok' := hok
    unfold JoinOk at hok'
    rw [Bool.not_eq_true'] at hok'
    exact call_meets F.slot_str_join (typeIs_str _ _ _) F.entry_str_join (F.args_str_join_2 _ _) (meets_str_join_list sep _ _ ps hok') ⟨⟨_, ho, rfl, k, rfl⟩, post_join ps ⟨joinFit_length hok', fun t' k => HAfter.same (t := k) hh (.str _ _)⟩⟩
noncomputable def lowS (x : Str) : Str := ⟨PySem.placed x fun i _ => Unicode.lowerAt x.cps i⟩
noncomputable def lowerK : FnT := k1 AV.str? fun H x => if (lowS x).length ≤ 4096 then some (.str (lowS x), H) else none
theorem fok_lower : FOk G n (.builtin "str.lower") lowerK :=
  .k1 AV.str_of fun {A X φ s H x ra v H'} hR hh ha e => iteE e fun hz e => someE e fun e1 e2 => by
    subst e1 e2
    obtain ⟨t, rfl⟩ := ha.str_inv
    have hz' : (PySem.placed x fun i _ => Unicode.lowerAt x.cps i).size ≤ sizeLine := le_size hz
    exact call_gives F.slot_str_lower (typeIs_str _ _ _) F.entry_str_lower (F.args_str_lower_1 _) (gives_str_lower x t (decide_eq_false (Nat.not_lt.mpr hz'))) ⟨hz', HAfter.same (t := s.toks + 1) hh (.str (lowS x) _)⟩
end
end Mine
end
section
open PySem PySem.W PyProof.Rows
set_option Elab.async false
set_option maxRecDepth 100000
set_option linter.all false
set_option autoImplicit false
namespace Mine
section
open Builtin Builtin.Str
set_option maxHeartbeats 4000000 in
theorem meets_q {x y : PySem.Str} {tx ty t : Tok} {b : Addr} (hx : x.length ≤ 100000) (hy : y.length ≤ 100000) :
    Meets («str.__mod__» ⟨[.str ⟨#[37, 115, 61, 34, 37, 115, 34]⟩ t, .ref b], []⟩) (fun _ R s => IsTup s.heap b #[.str x tx, .str y ty] ∧ ∀ t' k, R (.ok (.ret (.str (((x ++ ("=\"" : PySem.Str)) ++ y) ++ ("\"" : PySem.Str)) t'))) { s with toks := k }) := by
  kpt_run
set_option maxHeartbeats 4000000 in
theorem meets_p {x y : PySem.Str} {tx ty t : Tok} {b : Addr} (hx : x.length ≤ 100000) (hy : y.length ≤ 100000) :
    Meets («str.__mod__» ⟨[.str ⟨#[37, 115, 61, 37, 115]⟩ t, .ref b], []⟩) (fun _ R s => IsTup s.heap b #[.str x tx, .str y ty] ∧ ∀ t' k, R (.ok (.ret (.str ((x ++ ("=" : PySem.Str)) ++ y) t'))) { s with toks := k }) := by
  kpt_run
end
end Mine
end
section
open PySem PySem.W PyProof.Rows
set_option Elab.async false
set_option maxRecDepth 100000
set_option linter.all false
set_option autoImplicit false
namespace Mine
section
variable {G : Glob} {n : Nat} {fr : Fm}
/-! the percent sign -/
noncomputable def fqS : Str := ⟨#[37, 115, 61, 34, 37, 115, 34]⟩
noncomputable def fpS : Str := ⟨#[37, 115, 61, 37, 115]⟩
noncomputable def AV.pair? (a : AV) : Option (Str × Str) := a.tup?.bind fun l => l.head?.bind fun x => (l[1]?).bind fun y => x.str?.bind fun x => y.str?.bind fun y => if l.length = 2 then some (x, y) else none
theorem AV.pair_of {a : AV} {p : Str × Str} (h : a.pair? = some p) : a = .tup [.str p.1, .str p.2] := by
  obtain ⟨l, e, h⟩ := Option.bind_eq_some_iff.mp h
  obtain ⟨x, ex, h⟩ := Option.bind_eq_some_iff.mp h
  obtain ⟨y, ey, h⟩ := Option.bind_eq_some_iff.mp h
  obtain ⟨x', ex', h⟩ := Option.bind_eq_some_iff.mp h
  obtain ⟨y', ey', h⟩ := Option.bind_eq_some_iff.mp h
  obtain ⟨hl, h⟩ := ite_some h
  cases h
  rw [AV.str_of ex'] at ex
  rw [AV.str_of ey'] at ey
  rw [AV.tup_of e]
  match l, hl with
  | [u, v], _ => cases ex; cases ey; rfl
noncomputable def fmtS : List AO → AV → AV → Option (AV × List AO) := on2 AV.str? AV.pair? fun H f p => if p.1.length ≤ 4096 ∧ p.2.length ≤ 4096 then (if f = fqS then some (.str (((p.1 ++ ("=\"" : Str)) ++ p.2) ++ ("\"" : Str)), H) else if f = fpS then some (.str ((p.1 ++ ("=" : Str)) ++ p.2), H) else none) else none
noncomputable def fmtA (H : List AO) (a b : AV) : Option (AV × List AO) := (modA H a b).or (fmtS H a b)
theorem mod_tup {A : Around} {s : Shared} {b : Addr} {its : Array Value} {X T : Str} {t : Tok} {Q : Value → Shared → Prop} (ht : IsTup s.heap b its)
    (hm : Meets (Builtin.«str.__mod__» ⟨[.str X t, .ref b], []⟩) (fun _ R s => IsTup s.heap b its ∧ ∀ t' k, R (.ok (.ret (.str T t'))) { s with toks := k }))
    (h : ∀ t' k, Q (.str T t') { s with toks := k }) : wpAny (model G.prog G.w) A (binaryOp .Mod (.str X t) (.ref b)) Q noE s := by
  have hT : s.TypeIs (.ref b) "tuple" := by
    obtain ⟨o, ho, hc, _⟩ := ht
    exact ⟨o, ho, hc⟩
  exact KPt.bin_left (T := "str") (U := "tuple") (op := .Mod) (by decide) (typeIs_str s X t) hT F.fills_str_mod KPt.fills_tuple F.slot_str_mod
    (call_meets F.slot_str_mod (typeIs_str s X t) F.entry_str_mod (F.args_str_mod_2 _ _) hm ⟨ht, fun t' k => ⟨(fun e => nomatch e), h t' k⟩⟩)
theorem fmtA_int {H : List AO} {i j : Int} (h : j ≠ 0) : fmtA H (.int i) (.int j) = some (.int (i.fmod j), H) := or_pos h
theorem fmtA_q {H : List AO} {x y : Str} (h : x.length ≤ 4096 ∧ y.length ≤ 4096) : fmtA H (.str fqS) (.tup [.str x, .str y]) = some (.str (((x ++ ("=\"" : Str)) ++ y) ++ ("\"" : Str)), H) := (if_pos h).trans (if_pos rfl)
theorem fmtA_p {H : List AO} {x y : Str} (h : x.length ≤ 4096 ∧ y.length ≤ 4096) : fmtA H (.str fpS) (.tup [.str x, .str y]) = some (.str ((x ++ ("=" : Str)) ++ y), H) := (if_pos h).trans ((if_neg (by decide)).trans (if_pos rfl))
theorem p_fmt : P2Ok G n (binaryOp .Mod) VRel fmtA :=
  .or p_mod (.on2 AV.str_of AV.pair_of fun {A X φ s H f p ra rb v H'} hh ha hb e => by
    obtain ⟨⟨hx, hy⟩, e⟩ := ite_some e
    obtain ⟨t, rfl⟩ := ha.str_inv
    obtain ⟨b, vs, rfl, hX, ht, hs⟩ := hb.tup_inv
    obtain ⟨r, q, rfl, h1, h2⟩ := hs.inv2
    obtain ⟨t1, rfl⟩ := h1.str_inv
    obtain ⟨t2, rfl⟩ := h2.str_inv
    by_cases hf : f = fqS
    · subst hf
      rw [if_pos rfl] at e
      obtain ⟨rfl, rfl⟩ := some_inj2 e
      exact mod_tup ht (meets_q (by omega) (by omega)) fun t' k => HAfter.same (t := k) hh (.str _ _)
    · rw [if_neg hf] at e
      obtain ⟨rfl, e⟩ := ite_some e
      obtain ⟨rfl, rfl⟩ := some_inj2 e
      exact mod_tup ht (meets_p (by omega) (by omega)) fun t' k => HAfter.same (t := k) hh (.str _ _))
/-! pieces that may count on a token -/
noncomputable def TOk1 {α β : Type} (G : Glob) (n : Nat) (fr : Fm) (m : Env → Sem β) (rel : RelT α β) (F : St → Option (α × St)) : Prop :=
  ∀ (A : Around) (X φ : List Addr) (env : Env) (s : Shared) (S : St) (a : α) (S' : St), 0 < s.toks → Room n A → EnvOk fr env φ → Wd G X φ env.locals S s → F S = some (a, S') →
    wpAny (model G.prog G.w) A (m env) (After G X φ env.locals s rel a S') noE s
theorem TOk.one {α β : Type} {m : Env → Sem β} {rel : RelT α β} {F : St → Option (α × St)} (h : TOk G n fr m rel F) : TOk1 G n fr m rel F := fun A X φ env s S a S' _ => h A X φ env s S a S'
theorem wp_pos {α : Type} {M : Model} {A : Around} {m : Sem α} {Q : α → Shared → Prop} {s : Shared} (h0 : 0 < s.toks) (h : wpAny M A m Q noE s) : wpAny M A m (fun a s' => 0 < s'.toks ∧ Q a s') noE s :=
  wpAny_mono (wpAny_toks_of (n := 1) h0 h) (fun _ _ x => x) fun _ _ x => x.2
noncomputable abbrev EOk1 (G : Glob) (n : Nat) (fr : Fm) (e : Expr) (F : St → Option (AV × St)) : Prop := TOk1 G n fr (fun env => eval e env) VRel F
noncomputable abbrev SOk1 (G : Glob) (n : Nat) (fr : Fm) (st : Stmt) (F : St → Option (AFl × St)) : Prop := TOk1 G n fr (fun env => exec st env) FlRel F
theorem bd1_cons {st : Stmt} {rest : List Stmt} {F Fs : St → Option (AFl × St)} (h : SOk1 G n fr st F) (hs : BdOk1 G n fr rest Fs true) : BdOk1 G n fr (st :: rest) (seqF F Fs) true := by
  intro A X φ env s S a S' h0 hR hE hW e
  have h0 := h0 rfl
  exact seq_run e (fun s₁ => 0 < s₁.toks) (fun fl S₁ e1 => wp_pos h0 (h A X φ env s S fl S₁ h0 hR hE hW e1)) fun S₁ φ₁ s₁ h1 p₁ e2 => hs A X φ₁ env s₁ S₁ a S' (fun _ => h1) hR (hE.pre p₁.nx.pre) p₁.wd e2
theorem BdOk.one {b : List Stmt} {F : St → Option (AFl × St)} (h : BdOk G n fr b F) (flag : Bool) : BdOk1 G n fr b F flag := fun A X φ env s S a S' _ => h A X φ env s S a S'
theorem sok1_if {t : Expr} {b o : List Stmt} {pos : Pos} {Fb : St → Option (Bool × St)} {Ft Fe : St → Option (AFl × St)} (ht : BOk G n fr t Fb) (hb : BdOk1 G n fr b Ft true) (ho : BdOk1 G n fr o Fe true) : SOk1 G n fr (.If t b o pos) (test Fb Ft Fe) := by
  intro A X φ env s S a S' h0 hR hE hW h
  first | refine thenE h fun c S₁ e h => ?_ | refine map2E h fun c S₁ e h => ?_
  refine wpAny_If (wp_mono' (wp_pos h0 (ht A X φ env s S c S₁ hR hE hW e)) fun x s₁ ⟨h1, φ₁, p₁, q⟩ => ?_)
  have q : x = c := q
  subst q
  cases x with
  | true => exact wp_mono' (hb A X φ₁ env s₁ S₁ a S' (fun _ => h1) hR (hE.pre p₁.nx.pre) p₁.wd h) fun _ _ z => .of p₁ z
  | false => exact wp_mono' (ho A X φ₁ env s₁ S₁ a S' (fun _ => h1) hR (hE.pre p₁.nx.pre) p₁.wd h) fun _ _ z => .of p₁ z
theorem sok1_assign {t value : Expr} {pos : Pos} {F : St → Option (AV × St)} {Fa : AV → St → Option St} (h : EOk1 G n fr value F) (ha : AsOk G n fr (fun env v => assign t env v) Fa)
    (he : ∀ env, assignEach [t] env = [(false, assign t env)]) (hs : ∀ env, swapsWith value (some t) pos.line env = pure false) (hw : ∀ env : Env, env.scope = fr.scope → swappedStores [t] value env = pure none) :
    SOk1 G n fr (.Assign [t] value pos) (assignF F Fa) := by
  intro A X φ env s S a S' h0 hR hE hW q
  first | refine thenE q fun v S₁ e1 q => ?_ | refine map2E q fun v S₁ e1 q => ?_
  first | refine bindE q fun S₂ e2 q => ?_ | refine mapE q fun S₂ e2 q => ?_
  cases q
  refine wpAny_Assign_stores (wp_mono' (h A X φ env s S v S₁ h0 hR hE hW e1) fun r s₁ ⟨φ₁, p₁, hr⟩ => ?_) (hs env) (hw env hE.scope)
  rw [he]
  show wpAny _ A (assign t env r) _ _ _
  exact wp_mono' (ha A X φ₁ env s₁ S₁ v r S' hR (hE.pre p₁.nx.pre) p₁.wd hr e2) fun _ s₂ ⟨φ₂, p₂⟩ => ⟨φ₂, p₁.trans p₂, trivial⟩
noncomputable def replF (Fo : St → Option (AV × St)) (y z : Str) (S : St) : Option (AV × St) := match Fo S with
  | some (.str x, S₁) => if x.length ≤ 1000 ∧ z.length ≤ 1000 then some (.str (Txt.replace x y z), S₁) else none
  | _ => none
theorem eok1_replace (NB : ∀ h : Heap, (∀ p ∈ G.K, h.get? p.1 = some p.2) → NoneBooked h) {o : Expr} {apos pos p1 p2 : Pos} {k1 k2 : Nat} {y z : Str} {Fo : St → Option (AV × St)} (h : EOk1 G n fr o Fo)
    (hbase : ∀ env, attributeBase o "replace" env (eval o env) = eval o env) (hform : ∀ env, methodCallForm ([Expr.Constant (.str y) k1 p1, Expr.Constant (.str z) k2 p2].length + ([] : List Keyword).length) (backTo pos (starEach [.Constant (.str y) k1 p1, .Constant (.str z) k2 p2] env)) (backToKw pos (keywordEach [] env)) = true) (hline : (apos.endLine == pos.line) = true) :
    EOk1 G n fr (.Call (.Attribute o "replace" apos) [.Constant (.str y) k1 p1, .Constant (.str z) k2 p2] [] pos) (replF Fo y z) := by
  intro A X φ env s S v S' h0 hR hE hW e
  unfold replF at e
  split at e
  · rename_i x S₁ e1
    refine iteE e fun hz e => ?_
    cases e
    show wpAny _ A (eval (.Call (.Attribute o "replace" apos) [.Constant (.str y) k1 p1, .Constant (.str z) k2 p2] [] pos) env) _ _ _
    rw [arm_eval_Call, hbase]
    refine wp_then (wp_pos h0 (h A X φ env s S _ _ h0 hR hE hW e1)) fun ov s₁ ⟨h1, φ₁, p₁, hr⟩ => ?_
    refine wpAny_bind (wpAny_standAt ?_)
    unfold methodCall
    rw [hform]
    have hpos : methodCallPos true o env apos pos = pure pos := by unfold methodCallPos; simp [hline]
    cases hr with
    | str _ t =>
      refine wpAny_bind (wpAny_holding (met_str (G := G) F.slot_str_replace F.type_str_replace A X φ₁ s₁ S'.hp (.str x) (.str x t) _ _ p₁.wd.hd (.str x t) rfl ?_))
      refine wpAny_bind (wpAny_of_eq hpos ?_)
      refine callWith_gen (kws := []) (noStar _ (fun env => rfl) pos env) rfl ?_
      show wpAny _ A (spliced ((false, eval (.Constant (.str y) k1 p1) env) :: (false, eval (.Constant (.str z) k2 p2) env) :: [])) _ _ _
      refine Calls.spliced_cons (wpAny_Constant_str (Calls.spliced_cons (wpAny_Constant_str (Calls.spliced_nil ?_))))
      refine wpAny_evalAll_nil ?_
      refine wpAny_pure ⟨.inr (.inl rfl), ?_⟩
      have kin := p₁.wd.hd.kin
      have hb : x.length + (x.length + 1) * z.length ≤ 16777216 := by
        have : (x.length + 1) * z.length ≤ 1001 * 1000 := Nat.mul_le_mul (by omega) hz.2
        omega
      refine SC.replaceA (Nat.ne_of_gt h1) (Nat.succ_ne_zero _) (Nat.ne_of_lt (Nat.lt_succ_self _)) hb (fun t' k => ?_) (NB _ kin)
      exact .of p₁ ((HAfter.same (t := k) p₁.wd.hd (.str _ _)).lift p₁.wd)
  · cases e
end
end Mine
end
section
open PySem PySem.W PyProof.Rows
set_option Elab.async false
set_option maxRecDepth 100000
set_option linter.all false
set_option autoImplicit false
namespace Mine
theorem lk_getitem : typeLookup (.type "str") "__getitem__" = pure (some (.builtin "str.__getitem__")) := PySem.F.slot_str_getitem.lookup
theorem ty_getitem : typeOf (.builtin "str.__getitem__") = pure (.type "wrapper_descriptor") := by kernel_rfl
theorem slot_wd_get : Slot "wrapper_descriptor" "__get__" "wrapper_descriptor.__get__" :=
  .of (owner := "wrapper_descriptor") (n := "__get__") (by rw [typeLookup_type, builtinLookup_eq_fast]; kernel_rfl) (by decide +kernel) (by decide +kernel) (by decide +kernel)
    (by first | exact .inl (by decide +kernel) | exact .inr (by decide +kernel)) (by rw [isSubtype_type]; kernel_rfl)
theorem no_wd_set : typeLookup (.type "wrapper_descriptor") "__set__" = pure none := by rw [typeLookup_type, builtinLookup_eq_fast]; kernel_rfl
theorem no_wd_delete : typeLookup (.type "wrapper_descriptor") "__delete__" = pure none := by rw [typeLookup_type, builtinLookup_eq_fast]; kernel_rfl
theorem entry_wd_get : entryFor table "wrapper_descriptor.__get__" = some Builtin.«wrapper_descriptor.__get__» := entryFor_of_tree (by kernel_rfl)
theorem args_wd_get (a b c : Value) : argsOk "wrapper_descriptor.__get__" ⟨[a, b, c], []⟩ := by unfold argsOk; kernel_rfl
theorem owner_getitem : (".".intercalate ("str.__getitem__".cutAt '.').dropLast) = "str" := by
  have e0 : "str.__getitem__".cutAt '.' = ["str", "__getitem__"] := by first | rfl | decide +kernel
  rw [e0]; decide +kernel
theorem sub_ss : isSubtype (.type "str") (.type (".".intercalate ("str.__getitem__".cutAt '.').dropLast)) = pure true := by
  rw [owner_getitem, isSubtype_type]; kernel_rfl
section
variable {prog : Program} {w : World} {A : Around} {E : Value → Shared → Prop} {h : Heap} {g : Array GenState} {d : Drawn} {t : Nat} {os : OsState} {x : Str} {u : Tok}
theorem wd_get {R : Result → Shared → Prop} (hq : R (.ok (.ret (.ref h.objs.size))) ⟨h.push { cls := .type "method-wrapper", data := .fields #[.builtin "str.__getitem__", .str x u] }, g, d, t, os⟩) :
    codeAny (model prog w) A (.call (.builtin "wrapper_descriptor.__get__") ⟨[.builtin "str.__getitem__", .str x u, .type "str"], []⟩) R ⟨h, g, d, t, os⟩ := by
  have hT : (⟨h, g, d, t, os⟩ : Shared).TypeIs (.str x u) "str" := rfl
  have hT5 : (⟨h, g, d, t, os⟩ : Shared).TypeIs (.builtin "str.__getitem__") "wrapper_descriptor" := ty_getitem
  have f8 := sub_ss
  refine codeAny_call_builtin slot_wd_get.plain entry_wd_get (slot_wd_get.check _ _ _ _ _ _ _ _ hT5 (args_wd_get _ _ _) ?_)
  repeat (any_goals (first | assumption | wp_step))
theorem wd_entry {tk : Tok} {Q : Fin → Shared → Prop} (hq : Q (.done (.ret (.ref h.objs.size))) ⟨h.push { cls := .type "method-wrapper", data := .fields #[.builtin "str.__getitem__", .str x u] }, g, d, t, os⟩) :
    wpAny (model prog w) A (Builtin.«object.__getattribute__» ⟨[.str x u, .str "__getitem__" tk], []⟩) Q E ⟨h, g, d, t, os⟩ := by
  have hT : (⟨h, g, d, t, os⟩ : Shared).TypeIs (.str x u) "str" := rfl
  have hT5 : (⟨h, g, d, t, os⟩ : Shared).TypeIs (.builtin "str.__getitem__") "wrapper_descriptor" := ty_getitem
  have f4 := lk_getitem
  have f5 := ty_getitem
  have f6 := slot_wd_get.lookup
  have f7 := no_wd_set
  have f8 := no_wd_delete
  repeat (any_goals (first | assumption | wp_step))
  refine wd_get ?_
  repeat (any_goals (first | assumption | wp_step))
theorem wd_call {tk : Tok} {R : Result → Shared → Prop} (hq : R (.ok (.ret (.ref h.objs.size))) ⟨h.push { cls := .type "method-wrapper", data := .fields #[.builtin "str.__getitem__", .str x u] }, g, d, t, os⟩) :
    codeAny (model prog w) A (.call (.builtin "object.__getattribute__") ⟨[.str x u, .str "__getitem__" tk], []⟩) R ⟨h, g, d, t, os⟩ :=
  codeAny_call_builtin PySem.F.slot_str_getattribute.plain PySem.F.entry_object_getattribute (PySem.F.slot_str_getattribute.check _ _ _ _ _ _ _ _ (show (⟨h, g, d, t, os⟩ : Shared).TypeIs (.str x u) "str" from rfl) (PySem.F.args_object_getattribute_2 _ _) (wd_entry hq))
theorem wd_by {tk : Tok} {Q : Value → Shared → Prop} (hq : Q (.ref h.objs.size) ⟨h.push { cls := .type "method-wrapper", data := .fields #[.builtin "str.__getitem__", .str x u] }, g, d, t, os⟩) : wpAny (model prog w) A (getAttrBy (.str x u) (.str "__getitem__" tk) false) Q E ⟨h, g, d, t, os⟩ := by
  have hT : (⟨h, g, d, t, os⟩ : Shared).TypeIs (.str x u) "str" := rfl
  have f2 := PySem.F.slot_str_getattribute.lookup
  have f3 := PySem.F.slot_str_getattribute.bind (.str x u)
  repeat (any_goals (first | assumption | wp_step))
  refine wd_call ?_
  repeat (any_goals (first | assumption | wp_step))
theorem entry_hasattr : entryFor table "hasattr" = some Builtin.«hasattr» := entryFor_of_tree (by kernel_rfl)
theorem plain_hasattr : plainId "hasattr" = true := by decide +kernel
theorem args_hasattr (a b : Value) : argsOk "hasattr" ⟨[a, b], []⟩ := by unfold argsOk; kernel_rfl
end
end Mine
end
section
open PySem PySem.W PyProof.Rows
set_option Elab.async false
set_option maxRecDepth 100000
set_option linter.all false
set_option autoImplicit false
namespace Mine
theorem kind_hasattr : builtinKind "hasattr" = none := by decide +kernel
section
variable {prog : Program} {w : World} {A : Around} {E : Value → Shared → Prop} {h : Heap} {g : Array GenState} {d : Drawn} {t : Nat} {os : OsState} {x : Str} {u : Tok}
set_option maxHeartbeats 2000000 in
theorem call_hasattr {tk : Tok} {Q : Value → Shared → Prop} (hq : Q (.bool true) ⟨h.push { cls := .type "method-wrapper", data := .fields #[.builtin "str.__getitem__", .str x u] }, g, d, t, os⟩) :
    wpAny (model prog w) A (call (.builtin "hasattr") [.str x u, .str "__getitem__" tk]) Q E ⟨h, g, d, t, os⟩ := by
  refine Calls.call_function_entry kind_hasattr plain_hasattr entry_hasattr (args_hasattr _ _) ?_
  have hT : (⟨h, g, d, t, os⟩ : Shared).TypeIs (.str x u) "str" := rfl
  have f4 := lk_getitem
  have f2 := PySem.F.slot_str_getattribute.lookup
  unfold Builtin.«hasattr»
  repeat (any_goals (first | assumption | with_reducible apply wd_by | wp_step))
  exact ⟨_, rfl, hq⟩
end
section
variable {G : Glob} {n : Nat}
noncomputable def hasK : FnT := fun H args kw => match args, kw with
  | [.str x, .str y], [] => if y = Str.ofString "__getitem__" then some (.c (.bool true), H) else none
  | _, _ => none
theorem fok_hasattr : FOk G n (.builtin "hasattr") hasK := by
  intro A X φ s H args kw vs kvs v H' hR hh hv hkn hkv h
  unfold hasK at h
  split at h
  · refine iteE h fun hy h => ?_
    subst hy
    cases h
    cases no_kw hkn rfl
    cases hv with
    | cons h1 hn =>
      cases hn with
      | cons h2 hn =>
        cases hn; cases h1; cases h2
        obtain ⟨h, g, d, t, os⟩ := s
        exact call_hasattr (HAfter.push (t := t) hh fun _ => .c _)
  · cases h
end
end Mine
end
section
open PySem PySem.W PyProof.Rows
set_option Elab.async false
set_option maxRecDepth 100000
set_option linter.all false
set_option autoImplicit false
namespace Mine
section
variable {M : Model} {A : Around} {E : Value → Shared → Prop} {s : Shared}
theorem wpAny_callBorrowed {f : Value} {pos : List Value} {Q : Value → Shared → Prop} (hc : codeAny M A (.call f ⟨pos, []⟩) (fun r s' => match r with | .ok (.ret v) => Q v s' | .ok _ => False | .error e => E e s') s) : wpAny M A (callBorrowed f pos) Q E s := fun Γ p hΓ => by
  obtain ⟨r, s', hr, h⟩ := hc _ p rfl (hΓ.enter (.call f ⟨pos, []⟩) none p (by intro x; cases x))
  refine ⟨r, s', hr, ?_⟩
  cases r with
  | ok f =>
    cases f with
    | ret v => exact h
    | _ => exact h.elim
  | error e => exact h
end
section
variable {G : Glob} {n : Nat}
theorem code_bound {prog : Program} {w : World} {A : Around} {b f : Addr} {x : Value} {a : Args} {R : Result → Shared → Prop} {s : Shared} (hb : s.heap.get? b = some { cls := .type "method", dict := none, data := .fields #[.ref f, x], slots := #[] })
    (hq : codeAny (model prog w) A (.call (.ref f) { a with pos := x :: a.pos }) R s) : codeAny (model prog w) A (.call (.ref b) a) R s := by
  refine codeAny_of_tree ?_
  show wpAny _ A.in1 (callAny (.ref b) a) _ _ _
  unfold callAny
  refine wpAny_bind (wpAny_load hb ?_)
  exact wpAny_pure ⟨rfl, hq⟩
theorem borrows_method {A : Around} {s : Shared} {b f : Addr} {x : Value} {o : Obj} {fd : FuncData} {Q : Bool → Shared → Prop} {E : Value → Shared → Prop} (hb : s.heap.get? b = some { cls := .type "method", dict := none, data := .fields #[.ref f, x], slots := #[] }) (hf : s.heap.get? f = some o) (hd : o.data = .func fd) (h : Q true s) :
    wpAny (model G.prog G.w) A (borrowsExactly (.ref b)) Q E s := by
  unfold borrowsExactly
  refine wpAny_bind (wpAny_load hb ?_)
  show wpAny _ _ (load f >>= _) _ _ _
  refine wpAny_bind (wpAny_load hf ?_)
  rw [hd]
  exact wpAny_pure h
end
end Mine
end
section
open PySem PySem.W PyProof.Rows
set_option Elab.async false
set_option maxRecDepth 100000
set_option linter.all false
set_option autoImplicit false
namespace Mine
theorem slot_ci_next : Slot "callable_iterator" "__next__" "callable_iterator.__next__" :=
  .of (owner := "callable_iterator") (n := "__next__") (by rw [typeLookup_type, builtinLookup_eq_fast]; kernel_rfl) (by decide +kernel) (by decide +kernel) (by decide +kernel)
    (by first | exact .inl (by decide +kernel) | exact .inr (by decide +kernel)) (by rw [isSubtype_type]; kernel_rfl)
theorem entry_ci_next : entryFor table "callable_iterator.__next__" = some Builtin.«callable_iterator.__next__» := entryFor_of_tree (by kernel_rfl)
theorem args_ci_next (a : Value) : argsOk "callable_iterator.__next__" ⟨[a], []⟩ := by unfold argsOk; kernel_rfl
theorem entry_iter : entryFor table "iter" = some Builtin.«iter» := entryFor_of_tree (by kernel_rfl)
theorem plain_iter : plainId "iter" = true := by decide +kernel
theorem kind_iter : builtinKind "iter" = none := by decide +kernel
theorem args_iter (a b : Value) : argsOk "iter" ⟨[a, b], []⟩ := by unfold argsOk; kernel_rfl
noncomputable def FOkC (G : Glob) (n : Nat) (f : Value) (F : FnT) : Prop :=
  ∀ (A : Around) (X φ : List Addr) (s : Shared) (H : List AO) (args : List AV) (kw : List (Str × AV)) (vs : List Value) (kvs : List (Str × Value)) (v : AV) (H' : List AO), Room n A → Hd G X φ H s → VRels s.heap X φ args vs →
    kvs.map (·.1) = kw.map (·.1) → VRels s.heap X φ (kw.map (·.2)) (kvs.map (·.2)) → F H args kw = some (v, H') → codeAny (model G.prog G.w) A (.call f ⟨vs, kvs⟩) (fun r s' => match r with | .ok (.ret w) => HAfter G X φ s VRel v H' w s' | .ok _ => False | .error e => noE e s') s
section
variable {G : Glob} {n : Nat}
/-- the method behind a callable iterator is called -/
theorem ci_call {A : Around} {X φ : List Addr} {H : List AO} {s : Shared} {mi x : Nat} {ma f : Addr} {o : Obj} {fd : FuncData} {F : FnT} {v : AV} {H' : List AO} (hF : FOkC G n (.ref f) F) (hf : (f, o) ∈ G.K) (hd : o.data = .func fd) (hR : Room n A) (hh : Hd G X φ H s) (hma : φ[mi]? = some ma) (hm : H[mi]? = some (.meth (.ref f) x))
    (h : F H [.obj x] [] = some (v, H')) : wpAny (model G.prog G.w) A (callOutOfASlot (.ref ma)) (HAfter G X φ s VRel v H') noE s := by
  obtain ⟨ma', hma', xa, hxa, ho⟩ := hh.obj _ _ hm
  rw [hma] at hma'; cases hma'
  unfold callOutOfASlot
  refine wpAny_bind (borrows_method ho (hh.kin _ hf) hd ?_)
  rw [if_pos rfl]
  refine wpAny_callBorrowed (code_bound ho ?_)
  exact hF A X φ s H [.obj x] [] [.ref xa] [] v H' hR hh (.cons (.obj hxa) .nil) rfl .nil h
end
end Mine
end
section
open PySem PySem.W PyProof.Rows
set_option Elab.async false
set_option maxRecDepth 100000
set_option linter.all false
set_option autoImplicit false
namespace Mine
section
variable {G : Glob} {n : Nat}
theorem ci_item {A : Around} {X φ : List Addr} {H : List AO} {s : Shared} {i mi x : Nat} {c f : Addr} {o : Obj} {fd : FuncData} {F : FnT} {y z : Str} {H' : List AO} (hF : FOkC G n (.ref f) F) (hf : (f, o) ∈ G.K) (hd : o.data = .func fd) (hR : Room (n + 1) A) (hh : Hd G X φ H s) (hc : φ[i]? = some c)
    (hi : H[i]? = some (.citer (some (y, mi)))) (hm : H[mi]? = some (.meth (.ref f) x)) (h : F H [.obj x] [] = some (.str z, H')) (hi' : H'[i]? = some (.citer (some (y, mi)))) (hne : y ≠ z) :
    wpAny (model G.prog G.w) A (pyNext (.ref c)) (fun r s' => ∃ rv, r = some rv ∧ HAfter G X φ s VRel (.str z) H' rv s') noE s := by
  obtain ⟨c', hc', ma, t, hma, ho⟩ := hh.obj _ _ hi
  rw [hc] at hc'; cases hc'
  have hT : s.TypeIs (.ref c) "callable_iterator" := ⟨_, ho, rfl⟩
  unfold pyNext
  refine wpAny_bind (wpAny_attempt (wpAny_callSpecial?_slot (name := Str.ofString "__next__") hT slot_ci_next
    (wpAny_call_entry slot_ci_next hT entry_ci_next ?_ (args_ci_next _))))
  show wpAny _ _ (field (.ref c) 2 >>= _) _ _ _
  refine wpAny_bind (wpAny_field ho rfl (x := .bool false) rfl ?_)
  show wpAny _ _ (field (.ref c) 0 >>= _) _ _ _
  refine wpAny_bind (wpAny_field ho rfl (x := .ref ma) rfl ?_)
  refine wpAny_bind (wpAny_attempt (wpAny_mono (ci_call (A := A.in1) hF hf hd hR.in1 hh hma hm h) (fun rv s₁ h₁ => ?_) fun _ _ e => e.elim))
  obtain ⟨φ₁, p₁, hrv⟩ := h₁
  obtain ⟨c', hc', ma', t', hma', ho'⟩ := p₁.hd.obj _ _ hi'
  rw [p₁.nx.pre.get hc] at hc'; cases hc'
  show wpAny _ _ (field (.ref c) 2 >>= _) _ _ _
  refine wpAny_bind (wpAny_field ho' rfl (x := .bool false) rfl ?_)
  show wpAny _ _ (field (.ref c) 1 >>= _) _ _ _
  refine wpAny_bind (wpAny_field ho' rfl (x := .str y t') rfl ?_)
  cases hrv
  refine wpAny_bind (wpAny_holding (wpAny_eqBool_str ?_))
  rw [decide_eq_false hne]
  exact wpAny_pure ⟨_, rfl, wpAny_pure ⟨_, rfl, φ₁, p₁, .str _ _⟩⟩
end
end Mine
end
section
open PySem PySem.W PyProof.Rows
set_option Elab.async false
set_option maxRecDepth 100000
set_option linter.all false
set_option autoImplicit false
namespace Mine
section
variable {G : Glob} {n : Nat}
theorem ci_end {A : Around} {X φ : List Addr} {H : List AO} {s : Shared} {i mi x : Nat} {c f : Addr} {o : Obj} {fd : FuncData} {F : FnT} {y : Str} {H' : List AO} (hF : FOkC G n (.ref f) F) (hf : (f, o) ∈ G.K) (hd : o.data = .func fd) (hR : Room (n + 1) A) (hh : Hd G X φ H s) (hc : φ[i]? = some c)
    (hi : H[i]? = some (.citer (some (y, mi)))) (hm : H[mi]? = some (.meth (.ref f) x)) (h : F H [.obj x] [] = some (.str y, H')) (hi' : H'[i]? = some (.citer (some (y, mi)))) (hm' : H'[mi]? = some (.meth (.ref f) x)) :
    wpAny (model G.prog G.w) A (pyNext (.ref c)) (fun r s' => r = none ∧ ∃ φ', HPt G X φ s (H'.set i (.citer none)) φ' s') noE s := by
  obtain ⟨c', hc', ma, t, hma, ho⟩ := hh.obj _ _ hi
  rw [hc] at hc'; cases hc'
  have hT : s.TypeIs (.ref c) "callable_iterator" := ⟨_, ho, rfl⟩
  unfold pyNext
  refine wpAny_bind (wpAny_attempt (wpAny_callSpecial?_slot (name := Str.ofString "__next__") hT slot_ci_next
    (wpAny_call_entry slot_ci_next hT entry_ci_next ?_ (args_ci_next _))))
  show wpAny _ _ (field (.ref c) 2 >>= _) _ _ _
  refine wpAny_bind (wpAny_field ho rfl (x := .bool false) rfl ?_)
  show wpAny _ _ (field (.ref c) 0 >>= _) _ _ _
  refine wpAny_bind (wpAny_field ho rfl (x := .ref ma) rfl ?_)
  refine wpAny_bind (wpAny_attempt (wpAny_mono (ci_call (A := A.in1) hF hf hd hR.in1 hh hma hm h) (fun rv s₁ h₁ => ?_) fun _ _ e => e.elim))
  obtain ⟨φ₁, p₁, hrv⟩ := h₁
  obtain ⟨c', hc', ma', t', hma', ho'⟩ := p₁.hd.obj _ _ hi'
  rw [p₁.nx.pre.get hc] at hc'; cases hc'
  obtain ⟨ma2, hma2, xa, hxa, hom⟩ := p₁.hd.obj _ _ hm'
  rw [hma'] at hma2; cases hma2
  show wpAny _ _ (field (.ref c) 2 >>= _) _ _ _
  refine wpAny_bind (wpAny_field ho' rfl (x := .bool false) rfl ?_)
  show wpAny _ _ (field (.ref c) 1 >>= _) _ _ _
  refine wpAny_bind (wpAny_field ho' rfl (x := .str y t') rfl ?_)
  cases hrv
  refine wpAny_bind (wpAny_holding (wpAny_eqBool_str ?_))
  rw [decide_eq_true rfl]
  refine wpAny_bind (wpAny_rule ?_)
  refine wpAny_bind ?_
  wp_delta
  refine wpAny_bind (wpAny_field ho' rfl (x := .ref ma') rfl ?_)
  refine wpAny_bind ?_
  unfold slotLetsGo
  refine wpAny_bind (borrows_method hom (p₁.hd.kin _ hf) hd ?_)
  rw [if_pos rfl]
  refine wpAny_pure ?_
  refine wpAny_bind (wpAny_setField_rec ho' (by simp) fun h₂ ho₂ hs₂ => ?_)
  refine wpAny_bind (wpAny_setField_rec ho₂ (by simp) fun h₃ ho₃ hs₃ => ?_)
  refine wpAny_setField_rec ho₃ (by simp) fun h₄ ho₄ hs₄ => ?_
  have hs : Heap.SameBut c s₁.heap h₄ := (Heap.SameBut.trans hs₂ hs₃).trans hs₄
  have ho₅ : h₄.get? c = some { cls := .type "callable_iterator", data := .fields #[.none, .none, .bool true] } := ho₄
  have hcφ := p₁.nx.pre.get hc
  have fin : ∀ h' e t', (∀ b o, b ≠ c → s₁.heap.get? b = some o → h'.get? b = some o) → h'.get? c = some { cls := .type "callable_iterator", data := .fields #[.none, .none, .bool true] } → (∃ o, h'.get? e = some o ∧ o.cls = .type "StopIteration") →
      wpAny (model G.prog G.w) A (do if ← isInstance (.ref e) (.type "StopIteration") then pure none else throw (.ref e)) (fun r s' => r = (none : Option Value) ∧ ∃ φ', HPt G X φ s (H'.set i (.citer none)) φ' s') noE { s₁ with heap := h', toks := t' } := by
    rintro h' e t' hk hc' ⟨o, ho, hcl⟩
    refine wpAny_bind (wpAny_isInstance (T := "StopIteration") (b := true) ⟨o, ho, hcl⟩ isSubtype_stop ?_)
    obtain ⟨φ', p, _⟩ := HAfter.turn (rel := fun _ _ _ (_ : Unit) (_ : Unit) => True) (a := ()) (r := ()) (t := t') (ao := .citer none) p₁.hd hcφ (fun b o hb e => hk b o hb e) (fun _ => hc') (fun _ => trivial)
    exact wpAny_pure ⟨rfl, φ', p₁.trans p⟩
  show wpAny _ _ (newExc (.type "StopIteration") [] >>= _) _ _ _
  refine wpAny_bind ?_
  simp only [newExc, newTuple]
  refine wpAny_bind (wpAny_newObj_type ?_ (by size_fits))
  refine wpAny_bind (m := firstArgMember _ _) (wpAny_of_eq (a := Value.none) (by first | rfl | (simp only [firstArgMember]; rfl)) ?_)
  refine wpAny_newObj_type ?_ (by size_fits)
  simp only [raiseNew]
  refine wpAny_bind (wpAny_handled ?_)
  rw [show A.in1.handled = none from hR.handled]
  refine wpAny_bind (wpAny_pure (wpAny_throw ?_))
  exact fin _ _ _ (fun b o hb e => Heap.get?_push_of_some _ (Heap.get?_push_of_some _ (hs.extBut b o hb e))) (Heap.get?_push_of_some _ (Heap.get?_push_of_some _ ho₅)) ⟨_, Heap.get?_push_size _ rfl, rfl⟩
end
end Mine
end
section
open PySem PySem.W PyProof.Rows
set_option Elab.async false
set_option maxRecDepth 100000
set_option linter.all false
set_option autoImplicit false
namespace Mine
section
open Builtin Builtin.ObjectAttr
variable {prog : Program} {w : World} {A : Around} {E : Value → Shared → Prop} {h : Heap} {g : Array GenState} {d : Drawn} {t : Nat} {os : OsState}
variable {nm q : Str} {C N x : Addr} {bs : List Value} {sn : List Str} {sub : List Value} {ab : Bool} {col : Option Bool} {dd : Option Addr} {k0 k1 k2 k3 k5 : Option Value} {newId : String}
  {mN mA : Str → Option Value} {name : Str} {v : Value}
theorem lk_fn_get : typeLookup (.type "function") "__get__" = pure (some (.builtin "function.__get__")) := by rw [typeLookup_type, builtinLookup_eq_fast]; kernel_rfl
theorem lk_fn_set : typeLookup (.type "function") "__set__" = pure none := by rw [typeLookup_type, builtinLookup_eq_fast]; kernel_rfl
theorem lk_fn_delete : typeLookup (.type "function") "__delete__" = pure none := by rw [typeLookup_type, builtinLookup_eq_fast]; kernel_rfl
/-- a function of the class, taken off an instance -/
theorem load_bound {expr : Bool} {f dx : Addr} {fo : Obj} {Q : Value → Shared → Prop}
    (hC : h.get? C = some (excClassObj nm q C N bs [.type "object"] true sn sub ab col dd k0 k1 k2 k3 k5 newId)) (hn : h.Ns N mN) (hng : mN "__getattribute__" = none) (hgt : mN "__getattr__" = none) (hna : mN name = some (.ref f)) (hcn : (["__module__", "__name__", "__qualname__", "__doc__", "__annotations__"] : List Str).contains name = false)
    (hfo : h.get? f = some fo) (hfc : fo.cls = .type "function") (hB : ∃ y, typeLookup (.type "object") name = pure y) (hx : h.get? x = some { cls := .ref C, dict := some dx, data := .plain }) (hns : h.Ns1 dx mA) (hv : mA name = none)
    (hq : Q (.ref h.objs.size) ⟨h.push (methodObj (.ref f) (.ref x)), g, d, t + 1, os⟩) :
    wpAny (model prog w) A (getAttr (.ref x) name expr) Q E ⟨h, g, d, t, os⟩ := by
  obtain ⟨y, hB⟩ := hB
  unfold getAttr getAttrBy
  repeat (first | (with_reducible refine wpAny_loadPart_at hx ?_) | (with_reducible refine wpAny_typeLookup_exc hC hn F.mro_object F.lk_object_ga ?_; rw [hng]) | wp_step)
  show wpAny _ _ ((runValue (.builtin "proto.getattr_hooked" ⟨[.ref x, .str name t], []⟩)).onRaise (noteIf true (.ref x) (.str name t))) _ _ _
  refine wpAny_onRaise (wpAny_runValue (codeAny_builtin F.plainObj_entry_getattr_hooked ?_))
  unfold Builtin.«proto.getattr_hooked»
  repeat (first | (with_reducible refine wpAny_loadPart_at hx ?_) | (with_reducible refine wpAny_typeLookup_exc hC hn F.mro_object hB ?_; rw [hna]) | (with_reducible refine wpAny_typeOf (T := "function") ⟨_, hfo, hfc⟩ ?_) | (with_reducible refine wpAny_nsGet hns.ns ?_; rw [hv]) | (with_reducible refine wpAny_typeLookup_exc hC hn F.mro_object F.lk_object_getattr ?_; rw [hgt]) | (rw [hfc, lk_fn_get]; refine wpAny_pure ?_) | (unfold copiedAttributeGuard; simp only [hcn, Bool.false_eq_true, if_false]) | (rw [hfc, lk_fn_set]; refine wpAny_pure ?_) | (rw [hfc, lk_fn_delete]; refine wpAny_pure ?_) | wp_step)
  have X : Frag.In [(f, fo)] h := fun a o e => by
    by_cases z : a = f
    · subst z; simp at e; subst e; exact hfo
    · have : (a == f) = false := by simp [z]
      simp [List.lookup, this] at e
  refine fn_get (K := [(f, fo)]) (s := ⟨h, g, d, t + 1, os⟩) X ?_ ?_
  · unfold typeIn; simp [List.lookup, hfc]
  · exact wpAny_pure (wpAny_pure hq)
end
section
variable {G : Glob} {n : Nat} {fr : Fm}
noncomputable def boundF (C : Addr) (attr : Str) (f : Value) (H : List AO) (a : AV) : Option (AV × List AO) := a.obj?.bind fun i => (instAt H a).bind fun p => if p.1 = C ∧ p.2.2.lookup attr = none then some (.obj H.length, H ++ [.meth f i]) else none
/-- a method taken off an instance -/
theorem p_bound {C : Addr} {mN : Names} (K : Cls G C mN) {attr : Str} {f : Addr} {of : Obj} (hf : mN attr = some (.ref f)) (ho : (f, of) ∈ G.K) (hc : of.cls = .type "function") (hcn : (["__module__", "__name__", "__qualname__", "__doc__", "__annotations__"] : List Str).contains attr = false) (hB : ∃ y, typeLookup (.type "object") attr = pure y) {ex : Bool} :
    P1Ok G n (fun o => getAttr o attr ex) VRel (boundF C attr (.ref f)) := by
  intro A X φ s H a ra v H' hR hh hv h
  refine bindE h fun i ea hb => bindE hb fun p e hb => iteE hb fun hC hb => hh.instE e hv fun i' x da mA ea' er I => K.use hh.kin fun nm q N bs sn sub ab col dd k0 k1 k2 k3 k5 newId hC' hn => ?_
  obtain ⟨hC, he⟩ := hC
  cases hb
  subst er hC
  have hi : i = i' := by rw [AV.obj_of ea] at ea'; cases ea'; rfl
  subst hi
  have ha := HAfter.new (rel := VRel) (a := AV.obj H.length) (r := Value.ref s.heap.objs.size) (t := s.toks + 1) (o := methodObj (.ref f) (.ref x)) (ao := .meth (.ref f) i) hh
    (fun tk => ⟨x, by rw [List.getElem?_append_left (List.getElem?_eq_some_iff.mp I.hx).1]; exact I.hx, Heap.get?_push_size _ rfl⟩) (fun e _ => .obj e)
  have hof := hh.kin _ ho
  have h1 := I.ho
  have h2 := I.hns
  obtain ⟨heap, gens, drawn, toks, os⟩ := s
  exact load_bound hC' hn K.ga K.gt hf hcn hof hc hB h1 h2 (I.nr.none he) ha
end
end Mine
end
section
open PySem PySem.W PyProof.Rows
set_option Elab.async false
set_option maxRecDepth 100000
set_option linter.all false
set_option autoImplicit false
namespace Mine
theorem lk_method_call : ∃ y, typeLookup (.type "method") "__call__" = pure (some y) := ⟨.builtin "method.__call__", by rw [typeLookup_type, builtinLookup_eq_fast]; kernel_rfl⟩
section
variable {G : Glob} {n : Nat} {fr : Fm}
noncomputable def iterK : FnT := k2 AV.obj? AV.str? fun H i z => (methAt H i).bind fun _ => some (.obj H.length, H ++ [.citer (some (z, i))])
theorem fok_iter : FOk G n (.builtin "iter") iterK :=
  .k2 AV.obj_of AV.str_of fun {A X φ s H i z ra rb v H'} hR hh ha hb e => bindE e fun m hi e => someE e fun e1 e2 => by
    subst e1 e2
    obtain ⟨t, rfl⟩ := hb.str_inv
    obtain ⟨a, rfl, h0⟩ := ha.obj_inv
    obtain ⟨a', ha', xa, hxa, ho⟩ := hh.obj _ _ (methAt_of hi)
    cases Option.some.inj (h0.symm.trans ha')
    have fin := HAfter.new (rel := VRel) (a := AV.obj H.length) (r := Value.ref s.heap.objs.size) (t := s.toks) (o := { cls := .type "callable_iterator", data := .fields #[.ref a, .str z t, .bool false] }) (ao := .citer (some (z, _))) hh
      (fun tk => ⟨a, t, by rw [List.getElem?_append_left (List.getElem?_eq_some_iff.mp h0).1]; exact h0, Heap.get?_push_size _ rfl⟩) (fun e _ => .obj e)
    obtain ⟨y, hy⟩ := lk_method_call
    refine Calls.call_function_entry kind_iter plain_iter entry_iter (args_iter _ _) ?_
    unfold Builtin.«iter»
    refine wpAny_bind (wpAny_of_eq (a := [.ref a, .str z t]) (by first | rfl | kernel_rfl) ?_)
    dsimp only
    refine wpAny_bind ?_
    unfold specialOf
    refine wpAny_bind (wpAny_typeOf (T := "method") ⟨_, ho, rfl⟩ ?_)
    rw [hy]
    refine wpAny_pure ?_
    rw [if_neg (by simp)]
    refine wpAny_bind (wpAny_rule ?_)
    refine wpAny_bind ?_
    unfold newFields
    refine wpAny_newObj_type ?_ (by size_fits)
    exact wpAny_pure ⟨_, rfl, fin⟩
end
end Mine
end
section
open PySem PySem.W PyProof.Rows
set_option Elab.async false
set_option maxRecDepth 100000
set_option linter.all false
set_option autoImplicit false
namespace Mine
theorem slot_ci_iter : Slot "callable_iterator" "__iter__" "callable_iterator.__iter__" :=
  .of (owner := "callable_iterator") (n := "__iter__") (by rw [typeLookup_type, builtinLookup_eq_fast]; kernel_rfl) (by decide +kernel) (by decide +kernel) (by decide +kernel)
    (by first | exact .inl (by decide +kernel) | exact .inr (by decide +kernel)) (by rw [isSubtype_type]; kernel_rfl)
theorem entry_ci_iter : entryFor table "callable_iterator.__iter__" = some Builtin.«dict_keyiterator.__iter__» :=
  entryFor_alias (id' := "dict_keyiterator.__iter__") (by kernel_rfl) rfl (by decide +kernel) (by kernel_rfl)
theorem args_ci_iter (a : Value) : argsOk "callable_iterator.__iter__" ⟨[a], []⟩ := by unfold argsOk; kernel_rfl
section
variable {G : Glob} {n : Nat} {fr : Fm}
theorem pyIter_ci {A : Around} {E : Value → Shared → Prop} {s : Shared} {c : Addr} {o : Obj} {Q : Value → Shared → Prop} (ho : s.heap.get? c = some o) (hc : o.cls = .type "callable_iterator") (h : Q (.ref c) s) : wpAny (model G.prog G.w) A (pyIter (.ref c)) Q E s := by
  have hT : s.TypeIs (.ref c) "callable_iterator" := ⟨_, ho, hc⟩
  refine wpAny_pyIter_slot hT slot_ci_iter (wpAny_call_entry slot_ci_iter hT entry_ci_iter ?_ (args_ci_iter _))
  show wpAny _ _ (ret (.ref c)) _ _ s
  exact wpAny_pure ⟨_, rfl, "callable_iterator", _, hT, slot_ci_next.lookup, h⟩
/-- the loop over a callable iterator -/
noncomputable def citF (F : FnT) (f : Value) (i : Nat) (Fa : AV → St → Option St) (Fb Fe : St → Option (AFl × St)) : Nat → St → Option (AFl × St)
  | 0, _ => none
  | k + 1, S => (citAt S.hp i).bind fun y => (methAt S.hp y.2).bind fun g => if g.1 = f then thenO (F S.hp [.obj g.2] []) fun zv H' => zv.str?.bind fun z => (citAt H' i).bind fun y' => if y' = y then
      (if z = y.1 then (methAt H' y.2).bind fun g' => if g'.1 = f ∧ g'.2 = g.2 then Fe ⟨H'.set i (.citer none), S.loc⟩ else none
      else (Fa (.str z) ⟨H', S.loc⟩).bind fun S₁ => thenO (Fb S₁) fun fl S₂ => goOn fl (citF F f i Fa Fb Fe k S₂) S₂) else none else none
theorem citF_eq {F : FnT} {f : Value} {i : Nat} {Fa : AV → St → Option St} {Fb Fe : St → Option (AFl × St)} {k : Nat} {S : St} {y w : Str} {mi x : Nat} {H' : List AO} (hi : S.hp[i]? = some (.citer (some (y, mi)))) (hm : S.hp[mi]? = some (.meth f x)) (hF : F S.hp [.obj x] [] = some (.str w, H')) (hi' : H'[i]? = some (.citer (some (y, mi)))) :
    citF F f i Fa Fb Fe (k + 1) S = if w = y then (methAt H' mi).bind fun g' => if g'.1 = f ∧ g'.2 = x then Fe ⟨H'.set i (.citer none), S.loc⟩ else none
      else (Fa (.str w) ⟨H', S.loc⟩).bind fun S₁ => thenO (Fb S₁) fun fl S₂ => goOn fl (citF F f i Fa Fb Fe k S₂) S₂ :=
  bindI (citAt_eq hi) (bindI (methAt_eq hm) ((if_pos rfl).trans (thenI hF (bindI rfl (bindI (citAt_eq hi') (if_pos rfl))))))
theorem cit_loop {target : Expr} {body orelse : List Stmt} {Fa : AV → St → Option St} {Fb Fe : St → Option (AFl × St)} (ha : AsOk G n fr (fun env v => assign target env v) Fa) (hb : BdOk G n fr body Fb) (he : BdOk G n fr orelse Fe) (hN : NameTarget target = true)
    {f : Addr} {o : Obj} {fd : FuncData} {F : FnT} {m : Nat} (hF : FOkC G m (.ref f) F) (hf : (f, o) ∈ G.K) (hd : o.data = .func fd) (hm : m + 1 ≤ n) {A : Around} (hR : Room n A) {X : List Addr} {env : Env} {i : Nat} {c : Addr} (k : Nat) :
    ∀ (S S' : St) (a : AFl) (φ : List Addr) (s : Shared), EnvOk fr env φ → Wd G X φ env.locals S s → φ[i]? = some c → citF F (.ref f) i Fa Fb Fe k S = some (a, S') →
      ∀ {R : Result → Shared → Prop}, (∀ fl s' φ', Pt G X φ env.locals s S' φ' s' → FlRel s'.heap X φ' a fl → R (.ok fl) s') → codeAny (model G.prog G.w) A (.forLoop target (.ref c) body orelse env) R s := by
  induction k with
  | zero => intro S S' a φ s hE hW hc h R hr; cases h
  | succ k ih =>
    intro S S' a φ s hE hW hc h R hr
    refine bindE h fun y hi h => bindE h fun g hmi h => iteE h fun hg h => thenE h fun zv H' hFz h => bindE h fun z hz h => bindE h fun y' hi' h => iteE h fun hyy h => ?_
    have hi := citAt_of hi
    have hi' := citAt_of hi'
    have hmi := methAt_of hmi
    rw [AV.str_of hz] at hFz
    subst hyy
    rw [hg] at hmi
    refine elseE h (fun hzy h => bindE h fun g' hmi' h => iteE h fun hgx hq => ?_) fun hzy h => bindE h fun S₁ e1 h => thenE h fun fl S₂ e2 hq => ?_
    · have hmi' := methAt_of hmi'
      rw [hgx.1, hgx.2] at hmi'
      rw [hzy] at hFz
      refine for_step (wp_mono' (ci_end hF hf hd (hR.le hm) hW.hd hc hi hmi hFz hi' hmi') fun r s₁ ⟨hrn, φ₁, p₁⟩ => ?_)
      subst hrn
      have p₁ := p₁.lift hW
      exact wp_mono' (he A X φ₁ env s₁ _ a S' hR (hE.pre p₁.nx.pre) p₁.wd hq) fun fl s₂ ⟨φ₂, p₂, hf₂⟩ => hr fl s₂ φ₂ (p₁.trans p₂) hf₂
    · refine for_step (wp_mono' (ci_item hF hf hd (hR.le hm) hW.hd hc hi hmi hFz hi' (fun q => hzy q.symm)) fun r s₁ ⟨rv, hrv, h₁⟩ => ?_)
      subst hrv
      refine letOwned_name hN ?_
      obtain ⟨φ₁, p₁, hv₁⟩ := h₁
      have p₁ := p₁.lift hW
      refine wp_mono' (ha A X φ₁ env s₁ _ _ rv S₁ hR (hE.pre p₁.nx.pre) p₁.wd hv₁ e1) fun _ s₂ ⟨φ₂, p₂⟩ => ?_
      have pp := p₁.trans p₂
      refine wp_mono' (hb A X φ₂ env s₂ S₁ fl S₂ hR (hE.pre pp.nx.pre) pp.wd e2) fun f' s₃ ⟨φ₃, p₃, hf₃⟩ => ?_
      have pq := pp.trans p₃
      have again : citF F (.ref f) i Fa Fb Fe k S₂ = some (a, S') → codeAny (model G.prog G.w) A (.forLoop target (.ref c) body orelse env) R s₃ := fun h =>
        ih S₂ S' a φ₃ s₃ (hE.pre pq.nx.pre) pq.wd (pq.nx.pre.get hc) h fun fl s' φ' p z => hr fl s' φ' (pq.trans p) z
      cases fl with
      | next => cases f' <;> first | exact hf₃.elim | exact again hq
      | cont => cases f' <;> first | exact hf₃.elim | exact again hq
      | brk =>
        cases hq
        cases f' <;> first | exact hf₃.elim | exact hr .next s₃ φ₃ pq trivial
      | ret v =>
        cases hq
        cases f' <;> first | exact hf₃.elim | exact hr _ s₃ φ₃ pq hf₃
noncomputable def forCF (F : FnT) (f : Value) (Fi : St → Option (AV × St)) (Fa : AV → St → Option St) (Fb Fe : St → Option (AFl × St)) (k : Nat) (S : St) : Option (AFl × St) := thenO (Fi S) fun a S₁ => a.obj?.bind fun i => citF F f i Fa Fb Fe k S₁
theorem sok_forC {target iter : Expr} {body orelse : List Stmt} {pos : Pos} {Fi : St → Option (AV × St)} {Fa : AV → St → Option St} {Fb Fe : St → Option (AFl × St)} {k : Nat} (hi : EOk G n fr iter Fi) (ha : AsOk G n fr (fun env v => assign target env v) Fa) (hb : BdOk G n fr body Fb) (he : BdOk G n fr orelse Fe)
    (hN : NameTarget target = true) {f : Addr} {o : Obj} {fd : FuncData} {F : FnT} {m : Nat} (hF : FOkC G m (.ref f) F) (hf : (f, o) ∈ G.K) (hd : o.data = .func fd) (hm : m + 1 ≤ n) (hs : ∀ env x, foldedSetIterable iter env x = pure x) :
    SOk G n fr (.For target iter body orelse pos) (forCF F (.ref f) Fi Fa Fb Fe k) := by
  intro A X φ env s S a S' hR hE hW q
  refine thenE q fun a' S₁ e1 q => bindE q fun i ea q => ?_
  rw [AV.obj_of ea] at e1
  refine wpAny_For (wpAny_mono (hi A X φ env s S _ S₁ hR hE hW e1) (fun x s₁ ⟨φ₁, p₁, hx⟩ => ?_) fun _ _ z => z.elim) (hs env)
  obtain ⟨c, rfl, h0⟩ := hx.obj_inv
  have hci : ∃ y, citAt S₁.hp i = some y := by
    cases k with
    | zero => cases q
    | succ k => exact bindE q fun y hi _ => ⟨y, hi⟩
  obtain ⟨y, hy⟩ := hci
  obtain ⟨c', hc', ma, t, hma, ho⟩ := p₁.wd.hd.obj _ _ (citAt_of hy)
  cases Option.some.inj (h0.symm.trans hc')
  refine pyIter_ci ho rfl ?_
  exact cit_loop ha hb he hN hF hf hd hm hR k S₁ S' a φ₁ s₁ (hE.pre p₁.nx.pre) p₁.wd h0 q fun fl s' φ' p z => ⟨φ', p₁.trans p, z⟩
end
end Mine
end
section
open PySem PySem.W PyProof.Rows
set_option Elab.async false
set_option maxRecDepth 100000
set_option linter.all false
set_option autoImplicit false
namespace Mine
section
variable {G : Glob} {n : Nat} {fr : Fm}
/-! whole lists and tuples compared -/
noncomputable def leafD (a : AV) : Option PyData := (a.int?.map PyData.int).or (a.str?.map PyData.str)
noncomputable def leavesD : List AV → Option (List PyData)
  | [] => some []
  | a :: l => (leafD a).bind fun d => (leavesD l).bind fun ds => some (d :: ds)
noncomputable def dataD (H : List AO) (a : AV) : Option PyData := (a.obj?.bind fun i => (listAt H i).bind fun l => (leavesD l).map .list).or (a.tup?.bind fun l => (leavesD l).map .tuple)
theorem leaf_reads {h : Heap} {X φ : List Addr} {a : AV} {r : Value} {d : PyData} (hv : VRel h X φ a r) (e : leafD a = some d) : Reads h r d [] :=
  orE e (fun e => mapE e fun i ei e => by
    subst e
    rw [AV.int_of ei] at hv
    obtain ⟨t, rfl⟩ := hv.int_inv
    exact .int _ _) fun e => mapE e fun x ex e => by
    subst e
    rw [AV.str_of ex] at hv
    obtain ⟨t, rfl⟩ := hv.str_inv
    exact .str _ _
theorem leaves_reads {h : Heap} {X φ : List Addr} {l : List AV} {vs : List Value} (hv : VRels h X φ l vs) : ∀ {ds : List PyData}, leavesD l = some ds → ReadsAll h vs ds [] :=
  hv.ind (P := fun l vs => ∀ {ds : List PyData}, leavesD l = some ds → ReadsAll h vs ds []) (fun e => by cases e; exact .nil) fun a _ ih ds e => bindE e fun d ed e => bindE e fun ds' e2 e => by
    cases e
    exact .cons (leaf_reads a ed) (ih e2)
theorem data_reads {X φ : List Addr} {H : List AO} {s : Shared} {a : AV} {r : Value} {d : PyData} (hh : Hd G X φ H s) (hv : VRel s.heap X φ a r) (e : dataD H a = some d) : ∃ as, Reads s.heap r d as :=
  orE e (fun e => bindE e fun i ei e => bindE e fun l hl e => mapE e fun ds e1 e => by
    subst e
    rw [AV.obj_of ei] at hv
    refine hh.listE hl hv fun x vs n er hφ ho hvs => ?_
    subst er
    exact ⟨_, .list ho rfl rfl (leaves_reads hvs e1)⟩) fun e => bindE e fun l ei e => mapE e fun ds e1 e => by
    subst e
    rw [AV.tup_of ei] at hv
    obtain ⟨x, vs, rfl, hx, ⟨o, ho, hc, k, hd⟩, hs⟩ := hv.tup_inv
    exact ⟨_, .tuple ho hc hd (leaves_reads hs e1)⟩
noncomputable def dataA (f : PyData → PyData → Bool) (H : List AO) (a b : AV) : Option (Bool × List AO) := (dataD H a).bind fun da => (dataD H b).bind fun db => if da.layable0 = true ∧ db.layable0 = true then some (f da db, H) else none
noncomputable def dataEqA := dataA PyData.eqv
noncomputable def dataNeA := dataA fun a b => !PyData.eqv a b
theorem p_dataEq : P2Ok G (n + 1) (compareOp .Eq) Brel dataEqA := by
  intro A X φ s H a b ra rb v H' hR hh ha hb h
  refine bindE h fun da e1 hq => bindE hq fun db e2 hq => iteE hq fun hl hq => someE hq fun e3 e4 => ?_
  subst e3 e4
  obtain ⟨as, r1⟩ := data_reads hh ha e1
  obtain ⟨bs, r2⟩ := data_reads hh hb e2
  exact eq_dataS r1 r2 hl.1 hl.2 (by have := hR.units; omega) (HAfter.here hh rfl)
theorem p_dataNe : P2Ok G (n + 1) (compareOp .NotEq) Brel dataNeA := by
  intro A X φ s H a b ra rb v H' hR hh ha hb h
  refine bindE h fun da e1 hq => bindE hq fun db e2 hq => iteE hq fun hl hq => someE hq fun e3 e4 => ?_
  subst e3 e4
  obtain ⟨as, r1⟩ := data_reads hh ha e1
  obtain ⟨bs, r2⟩ := data_reads hh hb e2
  exact ne_dataS r1 r2 hl.1 hl.2 (by have := hR.units; omega) (HAfter.here hh rfl)
/-! an attribute counted on -/
noncomputable def augAttrF (Fo Fv : St → Option (AV × St)) (g : List AO → AV → Option (AV × List AO)) (f : List AO → AV → AV → Option (AV × List AO)) (C : Addr) (attr : Str) (S : St) : Option (AFl × St) := thenO (Fo S) fun o S₁ => thenO (g S₁.hp o) fun old H => thenO (Fv ⟨H, S₁.loc⟩) fun v S₂ => thenO (f S₂.hp old v) fun new H₂ => (setAttrF C attr H₂ o new).map fun H₃ => (.next, ⟨H₃, S₂.loc⟩)
theorem sok_augAttr {C : Addr} {mN : Names} (K : Cls G C mN) (hCK : ∃ o, (C, o) ∈ G.K) {o value : Expr} {attr : Str} {tpos pos : Pos} {op : Operator} (hna : mN attr = none) (hB : typeLookup (.type "object") attr = pure none) {Fo Fv : St → Option (AV × St)} {g : List AO → AV → Option (AV × List AO)} {f : List AO → AV → AV → Option (AV × List AO)}
    (ho : EOk G n fr o Fo) (hg : P1Ok G n (fun o => getAttr o attr true) VRel g) (hv : EOk G n fr value Fv) (hf : P2Ok G n (inplaceOp op) VRel f) : SOk G n fr (.AugAssign (.Attribute o attr tpos) op value pos) (augAttrF Fo Fv g f C attr) := by
  intro A X φ env s S a S' hR hE hW q
  refine thenE q fun av S₁ e1 q => thenE q fun old H e2 q => thenE q fun v S₂ e3 q => thenE q fun new H₂ e4 q => mapE q fun H₃ e5 q => ?_
  cases q
  refine wpAny_AugAssign_AttributeAny (wp_mono' (ho A X φ env s S av S₁ hR hE hW e1) fun ov s₁ ⟨φ₁, p₁, hov⟩ => ?_)
  refine wp_mono' (hg A X φ₁ s₁ S₁.hp av ov old H hR p₁.wd.hd hov e2) fun rold s₂ h₂ => ?_
  obtain ⟨φ₂, p₂, hold⟩ := h₂.lift p₁.wd
  refine wp_mono' (hv A X φ₂ env s₂ _ v S₂ hR (hE.pre (p₁.trans p₂).nx.pre) p₂.wd e3) fun rv s₃ ⟨φ₃, p₃, hrv⟩ => ?_
  refine wp_mono' (hf A X φ₃ s₃ S₂.hp old v rold rv new H₂ hR p₃.wd.hd (p₃.val p₂.wd hold) hrv e4) fun rn s₄ h₄ => ?_
  obtain ⟨φ₄, p₄, hn⟩ := h₄.lift p₃.wd
  have pp := p₂.trans (p₃.trans p₄)
  refine wp_mono' (p_setAttr K hCK hna hB p₄.wd.hd (pp.val p₁.wd hov) hn e5) fun _ s₅ ⟨φ₅, p₅⟩ => ?_
  exact ⟨φ₅, (p₁.trans pp).trans (HPt.lift (S := ⟨H₂, S₂.loc⟩) p₄.wd p₅), trivial⟩
end
end Mine
end
section
open PySem PySem.W PyProof.Rows
set_option Elab.async false
set_option maxRecDepth 100000
set_option linter.all false
set_option autoImplicit false
namespace Mine
open PySem.Builtin PySem.Builtin.Re
theorem slot_srch : Slot "re.Pattern" "search" "re.Pattern.search" :=
  .of (owner := "re.Pattern") (n := "search") (by rw [typeLookup_type, builtinLookup_eq_fast]; kernel_rfl) (by decide +kernel) (by decide +kernel) (by decide +kernel)
    (by first | exact .inl (by decide +kernel) | exact .inr (by decide +kernel)) (by rw [isSubtype_type]; kernel_rfl)
theorem ty_srch : typeOf (.builtin "re.Pattern.search") = pure (.type "method_descriptor") := by kernel_rfl
theorem plain_pattern : PlainAttrs "re.Pattern" :=
  ⟨⟨"object.__getattribute__", by rw [typeLookup_type, builtinLookup_eq_fast]; kernel_rfl, by decide +kernel⟩, by rw [typeLookup_type, builtinLookup_eq_fast]; kernel_rfl⟩
theorem entry_srch : entryFor table "re.Pattern.search" = some Builtin.«re.Pattern.search» := entryFor_of_tree (by kernel_rfl)
theorem args_srch (a b : Value) : argsOk "re.Pattern.search" ⟨[a, b], []⟩ := by unfold argsOk; kernel_rfl
/-- the matcher's run -/
noncomputable def driveP : Nat → Sre.M → Option Sre.M
  | 0, _ => none
  | k + 1, m => if (m.runFor reTurnSteps).outcome.isSome then some (m.runFor reTurnSteps) else driveP k (m.runFor reTurnSteps)
section
variable {M : Model} {A : Around} {E : Value → Shared → Prop} {s : Shared}
theorem wp_drive {Q : Sre.M → Shared → Prop} : ∀ (k n : Nat) (m m' : Sre.M), k ≤ n → driveP k m = some m' → Q m' s → wpAny M A (reDrive n m) Q E s
  | 0, n, m, m', hn, h, hq => by cases h
  | k + 1, 0, m, m', hn, h, hq => by omega
  | k + 1, n + 1, m, m', hn, h, hq => by
    simp only [driveP] at h
    simp only [reDrive]
    split at h
    · rename_i ho
      cases h
      rw [if_pos ho]; exact wpAny_pure hq
    · rename_i ho
      rw [if_neg ho]
      exact wpAny_bind (wpAny_rule (wp_drive k n _ m' (by omega) h hq))
theorem wp_rules {Q : PUnit → Shared → Prop} {f : Nat → PUnit → Sem (ForInStep PUnit)} (hf : ∀ i u, ∃ c, ∃ x, f i u = (if c = true then (do rule x; pure (.yield ⟨⟩)) else pure (.yield ⟨⟩))) : ∀ (l : List Nat), Q ⟨⟩ s → wpAny M A (forIn l ⟨⟩ f) Q E s
  | [], h => by rw [List.forIn_nil]; exact wpAny_pure h
  | i :: l, h => by
    rw [List.forIn_cons]
    obtain ⟨c, x, e⟩ := hf i ⟨⟩
    rw [e]
    cases c with
    | false => exact wpAny_bind (wpAny_pure (wp_rules hf l h))
    | true => exact wpAny_bind (wpAny_bind (wpAny_rule (wpAny_pure (wp_rules hf l h))))
/-- what a search tells: whether it was found -/
noncomputable def srchP (code : Array Nat) (groups : Nat) (x : Str) : Option Sre.M := driveP 64 (Sre.forSearch code x.cps groups (min (0 : Int).toNat x.cps.size) (min (2 ^ 63 - 1 : Int).toNat x.cps.size) false)
theorem wp_runToEnd {Q : Option Sre.M → Shared → Prop} {m m' : Sre.M} (h : driveP 64 m = some m') (hq : m'.outcome = some .matched ∧ Q (some m') s ∨ m'.outcome = some .failed ∧ Q none s) : wpAny M A (reRunToEnd m) Q E s := by
  unfold reRunToEnd
  refine wpAny_bind (wp_drive 64 _ m m' (by decide) h ?_)
  refine wpAny_bind (wp_rules (fun i u => ?_) _ ?_)
  · exact ⟨m'.seen.has i, _, rfl⟩
  · rcases hq with ⟨e, hq⟩ | ⟨e, hq⟩ <;> rw [e] <;> exact wpAny_pure hq
end
section
variable {G : Glob} {n : Nat} {fr : Fm}
noncomputable def foundM (m : Sre.M) : Option Bool := match m.outcome with
  | some .matched => some true
  | some .failed => some false
  | _ => none
theorem foundM_of {m : Sre.M} {b : Bool} (h : foundM m = some b) : m.outcome = some (if b = true then .matched else .failed) := by
  unfold foundM at h
  cases e : m.outcome with
  | none => rw [e] at h; cases h
  | some o => rw [e] at h; cases o <;> cases h <;> rfl
noncomputable def srchK (p : Addr) (code : Array Nat) : FnT := k2 AV.ref? AV.str? fun H p' x => if p' = p then (srchP code 0 x).bind fun m => (foundM m).bind fun b => some (if b = true then (.obj H.length, H ++ [.opq "re.Match"]) else (.c .none, H)) else none
theorem fok_srch {p c : Addr} {po co : Obj} {fs : Array Value} {items : Array Value} {k : Nat} {w : Int} {tw : Tok} (hp : (p, po) ∈ G.K) (hc : (c, co) ∈ G.K) (hcl : po.cls = .type "re.Pattern") (hfs : po.data = .fields fs) (h2 : reRawNat (fs.getD 2 .none) = 0) (h5 : fs.getD 5 .none = .ref c) (h6 : (reRawNat (fs.getD 6 .none) == 1) = false)
    (hco : co.data = .seq items k) : FOk G n (.builtin "re.Pattern.search") (srchK p ((items.map reRawOf).map (·.toNat))) :=
  .k2 AV.ref_of AV.str_of fun {A X φ s H p' x ra rb v H'} hR hh ha hb e => iteE e fun hpp e => bindE e fun m hm e => bindE e fun b hb' e => by
    subst hpp
    cases ha.c_inv
    obtain ⟨t, rfl⟩ := hb.str_inv
    have hpo := hh.kin _ hp
    have hcoo := hh.kin _ hc
    have hT : s.TypeIs (.ref p') "re.Pattern" := ⟨_, hpo, hcl⟩
    refine wpAny_call_entry slot_srch hT entry_srch ?_ (args_srch _ _)
    unfold Builtin.«re.Pattern.search» reTarget
    refine wpAny_bind ?_
    refine wpAny_bind (wpAny_of_eq (a := [some (.str x t), none, none]) (by first | rfl | kernel_rfl) ?_)
    refine wpAny_bind (wpAny_pure ?_)
    refine wpAny_bind (wpAny_pure ?_)
    refine wpAny_bind (wpAny_fieldsOf hpo hfs ?_)
    refine wpAny_bind (m := reTextOf _) (wpAny_of_eq (a := (x.cps, 0)) (by first | rfl | kernel_rfl) ?_)
    dsimp only
    rw [if_neg (by simp), if_neg (by rw [h6]; simp)]
    refine wpAny_bind (m := reNoCollectionInside _ _) (wpAny_of_eq (a := ()) (by first | rfl | kernel_rfl) ?_)
    refine wpAny_bind ?_
    unfold reRawItems
    rw [h5]
    refine wpAny_bind (wpAny_seqItems hcoo hco (wpAny_pure ?_))
    refine wpAny_pure ?_
    rw [h2]
    unfold reAnswer
    refine wpAny_bind ?_
    refine wp_runToEnd hm ?_
    have ho := foundM_of hb'
    cases b with
    | true =>
      obtain ⟨rfl, rfl⟩ := some_inj2 e
      refine .inl ⟨ho, ?_⟩
      dsimp only
      refine wpAny_bind ?_
      unfold reNewMatch
      dsimp only
      rw [if_neg (by simp)]
      simp only [show List.range 0 = [] from rfl, List.flatMap_nil]
      unfold newTuple
      refine wpAny_bind (wpAny_newObj_type ?_ (by size_fits))
      unfold newFields
      refine wpAny_newObj_type ?_ (by size_fits)
      refine wpAny_pure ⟨_, rfl, ?_⟩
      obtain ⟨φ₁, p₁, _⟩ := HAfter.push (rel := fun _ _ _ (_ : Unit) (_ : Unit) => True) (a := ()) (r := ()) (t := s.toks) (o := { cls := .type "tuple", data := .seq (rawInt ↑m.start :: rawInt ↑m.handed :: []).toArray }) hh (fun _ => trivial)
      refine HAfter.of p₁ ?_
      refine HAfter.new p₁.hd (fun tk => ⟨by decide, _, Heap.get?_push_size _ rfl, rfl, rfl⟩) (fun e _ => .obj e)
    | false =>
      obtain ⟨rfl, rfl⟩ := some_inj2 e
      exact .inr ⟨ho, wpAny_pure ⟨_, rfl, HAfter.here hh (.c _)⟩⟩
end
end Mine
end
section
open PySem PySem.W PyProof.Rows
set_option Elab.async false
set_option maxRecDepth 100000
set_option linter.all false
set_option autoImplicit false
namespace Mine
section
variable {G : Glob} {n : Nat} {fr : Fm}
noncomputable def forItF (Fo : St → Option (AV × St)) (Fe : St → Option (AFl × St)) (S : St) : Option (AFl × St) := thenO (Fo S) fun a S₁ => a.obj?.bind fun i => (dictAt S₁.hp i).bind fun es => if es.length = 0 then Fe S₁ else none
/-- nothing to walk in a dict's items -/
theorem sok_forItems (hsm : ∃ o, (sysModules, o) ∈ G.K) {o target : Expr} {body orelse : List Stmt} {apos ipos pos : Pos} {Fo : St → Option (AV × St)} {Fe : St → Option (AFl × St)} (h : EOk G n fr o Fo) (he : BdOk G n fr orelse Fe)
    (hbase : ∀ env, attributeBase o "items" env (eval o env) = eval o env) (hline : (apos.endLine == ipos.line) = true) (hs : ∀ env x, foldedSetIterable (.Call (.Attribute o "items" apos) [] [] ipos) env x = pure x) :
    SOk G n fr (.For target (.Call (.Attribute o "items" apos) [] [] ipos) body orelse pos) (forItF Fo Fe) := by
  intro A X φ env s S a S' hR hE hW q
  refine thenE q fun a' S₁ e1 q => bindE q fun i ea q => bindE q fun es hes q => iteE q fun h0 q => ?_
  rw [AV.obj_of ea] at e1
  cases List.eq_nil_of_length_eq_zero h0
  have hi := dictAt_of hes
  refine wpAny_For ?_ (hs env)
  rw [arm_eval_Call, hbase]
  refine wp_then (h A X φ env s S _ S₁ hR hE hW e1) fun ov s₁ ⟨φ₁, p₁, hr⟩ => ?_
  refine wpAny_bind (wpAny_standAt ?_)
  unfold methodCall
  rw [show methodCallForm _ _ _ = true from rfl]
  have hpos : methodCallPos true o env apos ipos = pure ipos := by unfold methodCallPos; simp [hline]
  have hm : MetOk G "items" (.builtin "dict.items") isDictA := met_dict PySem.F.slot_dict_items PySem.F.type_dict_items
  refine wpAny_bind (wpAny_holding (hm A X φ₁ s₁ S₁.hp (.obj i) ov _ _ p₁.wd.hd hr (by unfold isDictA; rw [show (AV.obj i).obj?.bind (dictAt S₁.hp) = some [] from hes]; rfl) ?_))
  refine wpAny_bind (wpAny_of_eq hpos ?_)
  obtain ⟨d, rfl, hd⟩ : ∃ d, ov = .ref d ∧ φ₁[i]? = some d := by cases hr with | obj hd => exact ⟨_, rfl, hd⟩
  obtain ⟨d', hd', oo, es', ep, kvs, ho, h1, h2, h3, h4, h5, h6, w⟩ := p₁.wd.hd.obj _ _ hi
  rw [hd] at hd'; cases hd'
  have hk : kvs = [] := by
    cases kvs with
    | nil => rfl
    | cons p r => simp at h6
  subst hk
  have hdsm : (d == sysModules) = false := by
    obtain ⟨o, ho⟩ := hsm
    have := p₁.wd.hd.kφ _ ho
    simp only [beq_eq_false_iff_ne, ne_eq]
    intro z
    exact this (by rw [← z]; exact List.mem_of_getElem? hd)
  have hDO : s₁.heap.DictAt (PySem.strKind G.prog G.w) d [] ep := ⟨oo, es', ho, h1, h2, h3, h4, h5⟩
  refine callWith_gen (args := []) (kws := []) rfl rfl (Calls.spliced_nil (wpAny_evalAll_nil (wpAny_pure ⟨.inr (.inl rfl), ?_⟩)))
  show wpAny _ _ (call (.builtin "dict.items") [.ref d]) _ _ _
  refine call_meetsIn PySem.F.slot_dict_items ⟨_, ho, h1.1⟩ PySem.F.entry_dict_items (PySem.F.args_dict_items_1 _) (meets_dict_items (PySem.strKind G.prog G.w) d hdsm) ⟨⟨[], ?_⟩, ?_⟩
  · exact ⟨oo, es', ep, ho, h1, h2, h3, h4, h5⟩
  refine wpAny_pyIter_items (v := s₁.heap.objs.size) (d := d) (kvs := []) (ep := ep) (knd := PySem.strKind G.prog G.w) ?_ ?_ ?_
  · exact ⟨_, Heap.get?_push_size _ rfl, rfl, rfl⟩
  · exact ⟨oo, es', Heap.get?_push_of_some _ ho, h1, h2, h3, h4, h5⟩
  refine for_step (wpAny_pyNext_items_end (kvs := []) (ep := ep) (d := d) (i := 0) (ok := .none) (ov := .none) (knd := PySem.strKind G.prog G.w) hR.handled (Heap.get?_push_size _ rfl) ⟨oo, es', Heap.get?_push_of_some _ (Heap.get?_push_of_some _ ho), h1, h2, h3, h4, h5⟩ rfl fun h' hx => ?_)
  have hk : ∀ b o, s₁.heap.get? b = some o → h'.get? b = some o := fun b o e => by
    have e1 := Heap.get?_push_of_some { cls := .type "dict_items", data := .fields #[.ref d] } e
    have l1 := Heap.lt_size e1
    exact hx b o (Nat.ne_of_lt l1) (Heap.get?_push_of_some _ e1)
  obtain ⟨φ₂, p₂, _⟩ := HAfter.all (rel := fun _ _ _ (_ : Unit) (_ : Unit) => True) (a := ()) (r := ()) (t := s₁.toks) (h' := h') p₁.wd.hd hk (fun _ => trivial)
  have p₂ := p₂.lift p₁.wd
  have pp := p₁.trans p₂
  exact wp_mono' (he A X φ₂ env _ S₁ a S' hR (hE.pre pp.nx.pre) p₂.wd q) fun _ _ z => .of pp z
end
end Mine
end
section
open PySem PySem.W PyProof.Rows
set_option Elab.async false
set_option maxRecDepth 100000
set_option linter.all false
set_option autoImplicit false
namespace Mine
theorem weight_make (C : Addr) (vs : List Value) (kvs : List (Str × Value)) : (Code.builtin "type.__call__" ⟨.ref C :: vs, kvs⟩).weight = 1 := by kernel_rfl
theorem units_make (C : Addr) (vs : List Value) (kvs : List (Str × Value)) : (Code.builtin "type.__call__" ⟨.ref C :: vs, kvs⟩).cUnits = 1 := by kernel_rfl
theorem Room.make {n : Nat} {A : Around} (r : Room (n + 1) A) (C : Addr) (vs : List Value) (kvs : List (Str × Value)) : Room n (A.under (.builtin "type.__call__" ⟨.ref C :: vs, kvs⟩)) := by
  refine ⟨?_, ?_, r.handled⟩
  · have := r.depth; simp only [Around.under, weight_make]; omega
  · have := r.units; simp only [Around.under, units_make]; omega
section
variable {G : Glob} {n : Nat} {fr : Fm}
structure MakeOk (G : Glob) (C fI : Addr) : Prop where
  makes : ∀ h : Heap, (∀ p ∈ G.K, h.get? p.1 = some p.2) → Makes (model G.prog G.w) h C
  init : ∀ h : Heap, (∀ p ∈ G.K, h.get? p.1 = some p.2) → Looks (model G.prog G.w) h (typeLookup (.ref C) "__init__") (some (.ref fI))
  bind : ∀ h : Heap, (∀ p ∈ G.K, h.get? p.1 = some p.2) → ∀ self, Looks (model G.prog G.w) h (bindSpecial (.ref fI) self) (.ref fI, [self])
noncomputable def classF (C : Addr) (F : FnT) : FnT := fun H args kw => thenO (F (H ++ [.ns []] ++ [.inst C H.length]) (.obj (H.length + 1) :: args) kw) fun a H' => a.nil?.bind fun _ => some (.obj (H.length + 1), H')
theorem fok_class {C fI : Addr} {F : FnT} (K : MakeOk G C fI) (hF : FOkC G n (.ref fI) F) : FOk G (n + 1) (.ref C) (classF C F) := by
  intro A X φ s H args kw vs kvs v H' hR hh hv hkn hkv h
  refine thenE h fun a H₁ e h => bindE h fun u eu h => someE h fun e1 e2 => ?_
  subst e1 e2
  rw [AV.nil_of eu] at e
  obtain ⟨φ₁, p₁, e₁⟩ := HAfter.new (rel := fun _ _ φ (_ : Unit) (_ : Unit) => φ[H.length]? = some s.heap.objs.size) (a := ()) (r := ()) (t := s.toks) (o := emptyDict) (ao := .ns []) hh
    (fun tk => ⟨_, ⟨_, #[], 0, Heap.get?_push_size _ rfl, rfl, fun _ he => by simp at he, List.Pairwise.nil, fun _ => rfl⟩, fun x => rfl⟩) (fun e _ => e)
  obtain ⟨φ₂, p₂, e₂⟩ := HAfter.new (rel := fun _ _ φ (_ : Unit) (_ : Unit) => φ[(H ++ [AO.ns []]).length]? = some (s.heap.push emptyDict).objs.size) (a := ()) (r := ()) (t := s.toks) (o := instObj C s.heap.objs.size) (ao := .inst C H.length) p₁.hd
    (fun tk => ⟨_, by rw [List.getElem?_append_left (List.getElem?_eq_some_iff.mp e₁).1]; exact e₁, Heap.get?_push_size _ rfl⟩) (fun e _ => e)
  have pp := p₁.trans p₂
  have hsz : (s.heap.push emptyDict).objs.size = s.heap.objs.size + 1 := Heap.size_push ..
  have hx : φ₂[H.length + 1]? = some (s.heap.objs.size + 1) := by
    have := e₂; rw [hsz] at this; simpa using this
  refine wpAny_call ?_
  have hrun := hF (A.under (.builtin "type.__call__" ⟨.ref C :: vs, kvs⟩)) X φ₂ { s with heap := (s.heap.push emptyDict).push (instObj C s.heap.objs.size) } _ (.obj (H.length + 1) :: args) kw (.ref (s.heap.objs.size + 1) :: vs) kvs _ H₁
    (hR.make C vs kvs) p₂.hd (.cons (.obj hx) (pp.vals hh hv)) hkn (pp.vals hh hkv) e
  obtain ⟨heap, gens, drawn, toks, os⟩ := s
  refine make_core (K.makes _ hh.kin) (K.init _ hh.kin) (K.bind _ hh.kin) (.inl (by simp)) (codeAny_mono hrun fun r s' z => ?_)
  cases r with
  | error e => exact z.elim
  | ok f =>
    cases f with
    | ret w =>
      obtain ⟨φ₃, p₃, hw⟩ := z
      cases hw
      exact ⟨rfl, φ₃, pp.trans p₃, .obj (p₃.nx.pre.get hx)⟩
    | _ => exact z.elim
/-- a def's contract, by its code -/
theorem fokc_def1 {mg mb : Names} (K : GOk G mg mb) {a : Addr} {o : Obj} {fd : FuncData} {body : List Stmt} {bnd : List AO → List AV → List (Str × AV) → Option (List (Str × AV) × List AO)} {Fb : List (Str × Nat) → St → Option (AFl × St)}
    (ho : (a, o) ∈ G.K) (hdata : o.data = .func fd) (hcd : ∀ h : Heap, (∀ p ∈ G.K, h.get? p.1 = some p.2) → h.CodeRec fd.code fd.qualname) (hbody : fd.body = .stmts body) (hbind : BindOk G fd bnd) {flag : Bool} (hflag : flag = true → ∀ H args kw ab H', bnd H args kw = some (ab, H') → FirstLocal fd.scope ab)
    (hb : ∀ cs, BdOk1 G n ⟨fd.scope, cs⟩ body (Fb cs) flag) (hco : fd.scope.isCoroutine = false) (hgen : fd.scope.isGenerator = false) (hk : fd.scope.kind = .function) (hgl : fd.globals = mainGlobals) (hbu : fd.builtins = builtinsNs) :
    FOkC G (n + 1) (.ref a) (fnF fd.scope bnd [] Fb) := fun A X φ s H args kw vs kvs v H' hR hh hv hkn hkv h =>
  fn_code K hdata hbody hbind hflag (fun cs => (hb cs).c) hco hgen hk hgl hbu (hh.kin _ ho) (hcd _ hh.kin) (fun x i e => by cases e) hR hh hv hkn hkv h
theorem FOkC.fok {f : Value} {F : FnT} (h : FOkC G n f F) : FOk G n f F := fun A X φ s H args kw vs kvs v H' hR hh hv hkn hkv e =>
  wpAny_call (h A X φ s H args kw vs kvs v H' hR hh hv hkn hkv e)
/-- a contract may be told by less -/
theorem FOkC.weak {f : Value} {F F' : FnT} (h : FOkC G n f F) (k : ∀ H args kw v H', F' H args kw = some (v, H') → F H args kw = some (v, H')) : FOkC G n f F' := fun A X φ s H args kw vs kvs v H' hR hh hv hkn hkv e =>
  h A X φ s H args kw vs kvs v H' hR hh hv hkn hkv (k _ _ _ _ _ e)
theorem FOkC.up {m : Nat} {f : Value} {F : FnT} (h : FOkC G m f F) (l : m ≤ n) : FOkC G n f F := fun A X φ s H args kw vs kvs v H' hR => h A X φ s H args kw vs kvs v H' (hR.le l)
theorem FOk.up {m : Nat} {f : Value} {F : FnT} (h : FOk G m f F) (l : m ≤ n) : FOk G n f F := fun A X φ s H args kw vs kvs v H' hR => h A X φ s H args kw vs kvs v H' (hR.le l)
end
end Mine
end
section
open PySem PySem.W PyProof.Rows
set_option Elab.async false
set_option maxRecDepth 100000
set_option linter.all false
set_option autoImplicit false
namespace Mine
noncomputable def freeCells (fr : Fm) : List (Str × NameKind) → List (Str × Nat) → Option (List (Str × Nat))
  | [], cs => some cs
  | (n, k) :: r, cs => if (k == .free) = true then ((fr.cells.lookup n).bind fun i => freeCells fr r ((n, i) :: cs)) else freeCells fr r cs
theorem clos_run {fr : Fm} {env : Env} {φ : List Addr} (hE : EnvOk fr env φ) (f : Str × NameKind → List (Str × Addr) → Sem (ForInStep (List (Str × Addr))))
    (hf : ∀ n k cs, f (n, k) cs = (if (k == .free) = true then (do let a ← cellOf env n; pure (.yield ((n, a) :: cs))) else pure (.yield cs))) :
    ∀ (names : List (Str × NameKind)) (cs₀ cs : List (Str × Nat)) (clos₀ : List (Str × Addr)), freeCells fr names cs₀ = some cs → CellsRel φ cs₀ clos₀ → ∃ clos, forIn names clos₀ f = pure clos ∧ CellsRel φ cs clos := by
  intro names
  induction names with
  | nil => intro cs₀ cs clos₀ h hc; cases h; exact ⟨clos₀, by rw [List.forIn_nil], hc⟩
  | cons p r ih =>
    obtain ⟨n, k⟩ := p
    intro cs₀ cs clos₀ h hc
    rw [List.forIn_cons, hf]
    refine elseE h (fun q h => bindE h fun i e h => ?_) fun q h => ?_
    · rw [if_pos q]
      obtain ⟨a, ha, hl⟩ := hE.cells n i e
      have ec : cellOf env n = pure a := by unfold cellOf; rw [hl]
      rw [ec]
      simp only [pure_bind]
      refine ih _ cs _ h fun x j ej => ?_
      by_cases z : x = n
      · subst z
        simp only [List.lookup_cons_self, Option.some.injEq] at ej
        subst ej
        exact ⟨a, ha, by simp⟩
      · have z' : (x == n) = false := by simp [z]
        simp only [List.lookup, z'] at ej ⊢
        exact hc x j ej
    · rw [if_neg q]
      simp only [pure_bind]
      exact ih _ cs _ h hc
structure DefEnv (G : Glob) (mg : Names) (c P : Addr) : Prop where
  code : ∀ h : Heap, (∀ p ∈ G.K, h.get? p.1 = some p.2) → CodeHd h c P
  built : ∀ h : Heap, (∀ p ∈ G.K, h.get? p.1 = some p.2) → h.BuiltinsAt mg P
  PG : mainGlobals ≠ P
section
variable {G : Glob} {n : Nat} {fr : Fm}
noncomputable def AO.new? : AO → Option Addr
  | .tab P true => some P
  | _ => none
theorem AO.new_of {a : AO} {P : Addr} (h : a.new? = some P) : a = .tab P true :=
  elimE (p := fun P => a = .tab P true) (by cases a with | tab P f => (cases f <;> first | trivial | rfl) | _ => trivial) h
noncomputable def defF (fr : Fm) (name : Str) (params : Arguments) (body : List Stmt) (scope : Scope) (pm : Value) (P : Addr) (ti : Nat) (ql : Str) (S : St) : Option (AFl × St) := (S.hp[ti]?).bind fun o => o.new?.bind fun P' => if P' = P then (freeCells fr scope.names []).bind fun cs => (storeF fr name (.obj (S.hp.length + 1)) ⟨S.hp.set ti (.tab P false) ++ [.crec (ql ++ name)] ++ [.fn ⟨name, ql ++ name, params, body, scope, pm⟩ cs S.hp.length], S.loc⟩).map (.next, ·) else none
theorem def_run {mg mb : Names} (K : GOk G mg mb) {c P : Addr} (D : DefEnv G mg c P) {name : Str} {params : Arguments} {body : List Stmt} {scope : Scope} {pos : Pos} {ti : Nat} (hd0 : params.defaults = []) (hk0 : params.kw_defaults = []) (ha : ∀ env, annTrees params none env = []) (hg : (fkind fr name == some .globalExplicit) = false)
    {A : Around} {X φ : List Addr} {env : Env} {s : Shared} {S : St} {a : AFl} {S' : St} {ql : Str} (hR : Room n A) (hE : EnvOk fr env φ) (hcode : env.code = .ref c) (hql : env.qual = ql) (hW : Wd G X φ env.locals S s)
    (q : defF fr name params body scope ((mg "__name__").getD .none) P ti ql S = some (a, S')) : wpAny (model G.prog G.w) A (exec (.FunctionDef name params body [] none [] scope none name pos) env) (After G X φ env.locals s FlRel a S') noE s := by
  refine bindE q fun o hti q => bindE q fun P' ho q => iteE q fun hP q => bindE q fun cs hcs q => mapE q fun S₁ e1 hq => ?_
  cases hq
  subst hP
  rw [AO.new_of ho] at hti
  obtain ⟨P, hPφ, hP, ps, hPo, hps⟩ := hW.hd.obj _ _ hti
  cases hP
  cases hps rfl
  have hqn : qualnameIn env name name = ql ++ name := by
    unfold qualnameIn
    have : env.kindOf name = fkind fr name := by unfold Env.kindOf; rw [hE.scope]
    rw [this, hg, hql]; rfl
  obtain ⟨clos, hcl, hcr⟩ := clos_run hE (fun (x : Str × NameKind) cs => match x with | (name, kind) => if kind == .free then (do let a ← cellOf env name; pure (.yield ((name, a) :: cs))) else pure (.yield cs)) (fun n k cs => rfl) scope.names [] cs [] hcs .nil
  have hclo : closureFor scope env = pure clos := by
    have e : closureFor scope env = (forIn scope.names [] (fun (x : Str × NameKind) cs => match x with | (name, kind) => if kind == .free then (do let a ← cellOf env name; pure (.yield ((name, a) :: cs))) else pure (.yield cs)) >>= fun cs => pure cs) := rfl
    rw [e, hcl, pure_bind]
  refine nestDef_K hd0 hk0 (ha env) ?_
  rw [hqn]
  obtain ⟨h1, h2, h3⟩ := K.main s.heap hW.hd.kin
  refine makeFunction_K (ps := #[]) hclo hE.glob h1 hcode (D.code _ hW.hd.kin) hPo trivial rfl D.PG (D.built _ hW.hd.kin) fun c' ctv doc h' tk hx hge hlt hrec htb => ?_
  obtain ⟨c₂, oc, vs, t, e2, hoc, hd, hv⟩ := hrec
  cases e2
  have hlen : ti < S.hp.length := (List.getElem?_eq_some_iff.mp hti).1
  have hcP : c' ≠ P' := Nat.ne_of_gt (Nat.lt_of_lt_of_le (Heap.lt_size hPo) hge)
  have g1 : (h'.update P' fun _ => tabObj #[]).get? P' = some (tabObj #[]) := Heap.get?_update_self _ htb rfl
  have g2 : ∀ b, b ≠ P' → (h'.update P' fun _ => tabObj #[]).get? b = h'.get? b := fun b hb => Heap.get?_update_ne _ _ _ _ hb
  have k1 : ∀ b o, s.heap.get? b = some o → (h'.update P' fun _ => tabObj #[]).get? b = some o := fun b o e => by
    by_cases z : b = P'
    · subst z; rw [hPo] at e; cases e; exact g1
    · rw [g2 b z]; exact hx b o z e
  have hn : s.heap.get? c' = none := Heap.get?_none_of_le hge
  obtain ⟨tk1, hd1, nx1⟩ := hW.hd.new (a := c') (ao := .crec (ql ++ name)) (h' := h'.update P' fun _ => tabObj #[]) (t := tk) hn k1 (fun _ => ⟨oc, vs, t, (g2 c' hcP).trans hoc, hd, hv⟩)
  have p1 : HPt G X φ s (S.hp ++ [.crec (ql ++ name)]) (φ ++ [c']) { s with heap := h'.update P' fun _ => tabObj #[], toks := tk } := ⟨nx1, hd1, .ofAll k1⟩
  obtain ⟨φ₂, p2, e₂⟩ := HAfter.turn (rel := fun _ _ ψ (_ : Unit) (_ : Unit) => ψ = φ ++ [c']) (a := ()) (r := ()) (t := tk) (h' := h') (ao := .tab P' false) p1.hd (nx1.pre.get hPφ) (fun b o hb e => by rw [← g2 b hb]; exact e) (fun _ => ⟨rfl, _, htb, fun z => by cases z⟩) (fun _ => rfl)
  subst e₂
  obtain ⟨φ₃, p3, e₃⟩ := HAfter.new (rel := fun _ _ ψ (_ : Unit) (_ : Unit) => ψ[S.hp.length + 1]? = some h'.objs.size) (a := ()) (r := ()) (t := tk) (o := fnObj ⟨name, ql ++ name, params, body, scope, (mg "__name__").getD .none⟩ clos doc c' ctv) (ao := .fn ⟨name, ql ++ name, params, body, scope, (mg "__name__").getD .none⟩ cs S.hp.length) p2.hd
    (fun _ => ⟨c', ctv, doc, clos, by rw [← hW.hd.len]; simp, (hcr.pre nx1.pre).pre ⟨_, rfl⟩, Heap.get?_push_size _ rfl⟩) (fun e _ => by simpa using e)
  have pp := HPt.lift hW ((p1.trans p2).trans p3)
  rw [List.set_append_left _ _ hlen] at pp
  refine wp_mono' (aok_store A X φ₃ env _ _ (.obj (S.hp.length + 1)) (.ref h'.objs.size) S' hR (hE.pre pp.nx.pre) pp.wd (.obj e₃) e1) fun _ s₂ ⟨φ₄, p₄⟩ => ⟨φ₄, pp.trans p₄, trivial⟩
end
end Mine
end
section
open PySem PySem.W PyProof.Rows
set_option Elab.async false
set_option maxRecDepth 100000
set_option linter.all false
set_option autoImplicit false
namespace Mine
section
variable {prog : Program} {w : World} {A : Around} {E : Value → Shared → Prop} {h : Heap} {g : Array GenState} {d : Drawn} {t : Nat} {os : OsState}
variable {nm q : Str} {C N x : Addr} {bs : List Value} {sn : List Str} {sub : List Value} {ab : Bool} {col : Option Bool} {dd : Option Addr} {k0 k1 k2 k3 k5 : Option Value} {newId : String}
  {mN : Str → Option Value} {name : Str} {v : Value}
/-- nothing of the class bears the name: the plain load -/
theorem method_plain {pl : Sem Bool} {o : Obj} {Q : Value × List Value → Shared → Prop}
    (hC : h.get? C = some (excClassObj nm q C N bs [.type "object"] true sn sub ab col dd k0 k1 k2 k3 k5 newId)) (hn : h.Ns N mN) (hng : mN "__getattribute__" = none) (hnh : mN "__getattr__" = none)
    (hf : mN name = none) (hB : typeLookup (.type "object") name = pure none) (hx : h.get? x = some o) (hc : o.cls = .ref C)
    (hq : wpAny (model prog w) A (getAttr (.ref x) name) (fun v s' => Q (v, []) s') E ⟨h, g, d, t, os⟩) :
    wpAny (model prog w) A (getMethod (.ref x) name pl) Q E ⟨h, g, d, t, os⟩ := by
  have hcan := F.canon_object_ga
  unfold getMethod specialOf
  repeat (first | (with_reducible exact wpAny_bind (wpAny_mono hq (fun v s' z => wpAny_pure z) fun _ _ z => z)) | (with_reducible refine wpAny_loadPart_at hx ?_; rw [hc]) | (with_reducible refine wpAny_typeLookup_exc hC hn F.mro_object F.lk_object_ga ?_; rw [hng]) | (with_reducible refine wpAny_typeLookup_exc hC hn F.mro_object F.lk_object_getattr ?_; rw [hnh]) | (with_reducible refine wpAny_typeLookup_exc hC hn F.mro_object hB ?_; rw [hf]) | simp only [hcan, Bool.false_eq_true, if_false] | wp_step)
end
section
variable {G : Glob} {n : Nat} {fr : Fm}
/-- a closure's contract, whatever its cells -/
noncomputable def ShOk (G : Glob) (n : Nat) (sh : FnSh) (F : List (Str × Nat) → FnT) : Prop :=
  ∀ (A : Around) (X φ : List Addr) (s : Shared) (H : List AO) (i ci : Nat) (fa : Addr) (cs : List (Str × Nat)) (args : List AV) (vs : List Value) (v : AV) (H' : List AO), Room n A → Hd G X φ H s → φ[i]? = some fa → H[i]? = some (.fn sh cs ci) → H[ci]? = some (.crec sh.qual) → VRels s.heap X φ args vs →
    F cs H args [] = some (v, H') → wpAny (model G.prog G.w) A (call (.ref fa) vs) (HAfter G X φ s VRel v H') noE s
noncomputable def AO.fn? : AO → Option (FnSh × List (Str × Nat) × Nat)
  | .fn sh cs ci => some (sh, cs, ci)
  | _ => none
theorem AO.fn_of {a : AO} {p : FnSh × List (Str × Nat) × Nat} (h : a.fn? = some p) : a = .fn p.1 p.2.1 p.2.2 :=
  elimE (p := fun p => a = .fn p.1 p.2.1 p.2.2) (by cases a <;> first | trivial | rfl) h
noncomputable def AO.crec? : AO → Option Str
  | .crec q => some q
  | _ => none
theorem AO.crec_of {a : AO} {p : Str} (h : a.crec? = some p) : a = .crec p :=
  elimE (p := fun p => a = .crec p) (by cases a <;> first | trivial | rfl) h
open Classical in
noncomputable def ownCallF (C : Addr) (name : Str) (sh : FnSh) (F : List (Str × Nat) → FnT) (Fo : St → Option (AV × St)) (Fa : St → Option (List AV × St)) (S : St) : Option (AV × St) :=
  thenO (Fo S) fun a S₁ => thenO (attrF C name S₁.hp a) fun b H => b.obj?.bind fun i => thenO (Fa ⟨H, S₁.loc⟩) fun as S₂ => (S₂.hp[i]?).bind fun o => o.fn?.bind fun p => if p.1 = sh then (S₂.hp[p.2.2]?).bind fun o' => o'.crec?.bind fun q => if q = sh.qual then thenO (F p.2.1 S₂.hp as []) fun v H => some (v, ⟨H, S₂.loc⟩) else none else none
open Classical in
theorem eok_ownCall {C : Addr} {mN : Names} (K : Cls G C mN) {sh : FnSh} {F : List (Str × Nat) → FnT} (hF : ShOk G n sh F) {o : Expr} {name : Str} {apos pos : Pos} {es : List Expr} {Fo : St → Option (AV × St)} {Fa : St → Option (List AV × St)} (hna : mN name = none) (hB : typeLookup (.type "object") name = pure none)
    (h : EOk G n fr o Fo) (ha : EsOk G n fr es Fa) (hst : ∀ env, (starEach es env).any (·.1) = false) (hbase : ∀ env, attributeBase o name env (eval o env) = eval o env) (hform : ∀ env, methodCallForm (es.length + ([] : List Keyword).length) (backTo pos (starEach es env)) (backToKw pos (keywordEach [] env)) = true) (hline : (apos.endLine == pos.line) = true) :
    EOk G n fr (.Call (.Attribute o name apos) es [] pos) (ownCallF C name sh F Fo Fa) := by
  intro A X φ env s S v S' hR hE hW e
  refine thenE e fun a S₁ e1 e => thenE e fun b H e2 e => bindE e fun i eb e => thenE e fun as S₂ e3 e => bindE e fun of hi e => bindE e fun p hp e => iteE e fun hsh e => bindE e fun oc hci e => bindE e fun q hq e => iteE e fun hqq e => thenE e fun v' H' e4 ee => ?_
  cases ee
  rw [AO.fn_of hp, hsh] at hi
  rw [AO.crec_of hq, hqq] at hci
  rw [AV.obj_of eb] at e2
  show wpAny _ A (eval (.Call (.Attribute o name apos) es [] pos) env) _ _ _
  rw [arm_eval_Call, hbase]
  refine wp_then (h A X φ env s S a S₁ hR hE hW e1) fun ov s₁ ⟨φ₁, p₁, hr⟩ => ?_
  refine wpAny_bind (wpAny_standAt ?_)
  unfold methodCall
  rw [hform]
  have hpos : methodCallPos true o env apos pos = pure pos := by unfold methodCallPos; simp [hline]
  refine wpAny_bind (wpAny_holding ?_)
  refine wpAny_mono (Q := fun p s₂ => ∃ r, p = (r, []) ∧ HAfter G X φ₁ s₁ VRel (.obj i) H r s₂) (E := noE) ?_ (fun p₂ s₂ hz => hz.elim fun r hz => ?_) (fun _ _ z => z.elim)
  · have key : wpAny (model G.prog G.w) A (getAttr ov name) (fun r s₂ => HAfter G X φ₁ s₁ VRel (.obj i) H r s₂) noE s₁ := p_getAttr (n := n) (ex := false) K hna hB A X φ₁ s₁ S₁.hp a ov (.obj i) H hR p₁.wd.hd hr e2
    refine bindE e2 fun q ha hq => iteE hq fun hC hq => p₁.wd.hd.instE ha hr fun ii x da mA ea er I => K.use p₁.wd.hd.kin fun nm q N bs sn sub ab col dd k0 k1 k2 k3 k5 newId hC' hn => ?_
    have hox := I.ho
    rw [hC] at hox
    subst er
    obtain ⟨heap, gens, drawn, toks, os⟩ := s₁
    exact method_plain hC' hn K.ga K.gt hna hB hox rfl (wp_mono' key fun r s₂ z => ⟨r, rfl, z⟩)
  · obtain ⟨rfl, h₂⟩ := hz
    obtain ⟨φ₂, p₂, hr₂⟩ := h₂.lift p₁.wd
    refine wpAny_bind (wpAny_of_eq hpos ?_)
    obtain ⟨fa, rfl, hfa⟩ := hr₂.obj_inv
    have pp := p₁.trans p₂
    refine callWith_gen (kws := []) (noStar es hst pos env) rfl (wp_mono' (ha pos A X φ₂ env s₂ _ as S₂ hR (hE.pre pp.nx.pre) p₂.wd e3) fun vs s₃ ⟨φ₃, p₃, hvs⟩ => ?_)
    refine wpAny_evalAll_nil ?_
    have hfa₃ := p₃.nx.pre.get hfa
    obtain ⟨fa', hfa', c', ctv, doc, clos, hc', hcl, ho⟩ := p₃.wd.hd.obj _ _ hi
    cases Option.some.inj (hfa₃.symm.trans hfa')
    unfold keeperOf
    refine wpAny_bind (wpAny_load ho (wpAny_pure ⟨.inl rfl, ?_⟩))
    have pq := pp.trans p₃
    exact wp_mono' (hF A X φ₃ s₃ S₂.hp i _ fa _ as vs v H' hR p₃.wd.hd hfa₃ hi hci hvs e4) fun r s₄ h₄ => .of pq (h₄.lift p₃.wd)
/-- a closure's contract from its body -/
theorem shok_def {mg mb : Names} (K : GOk G mg mb) {sh : FnSh} {bnd : List AO → List AV → List (Str × AV) → Option (List (Str × AV) × List AO)} {Fb : List (Str × Nat) → St → Option (AFl × St)}
    (hbind : ∀ clos doc c' ctv, BindOk G (fnX sh.name sh.qual sh.params sh.body sh.scope clos .none .none doc sh.pm none (.ref c') ctv) bnd)
    (hb : ∀ cs, BdOk G n ⟨sh.scope, cs⟩ sh.body (Fb cs)) (hco : sh.scope.isCoroutine = false) (hgen : sh.scope.isGenerator = false) (hk : sh.scope.kind = .function) :
    ShOk G (n + 1) sh (fun cs => fnF sh.scope bnd cs Fb) := by
  intro A X φ s H i ci fa cs args vs v H' hR hh hfa hi hci hv e
  obtain ⟨fa', hfa', c', ctv, doc, clos, hc', hcl, ho⟩ := hh.obj _ _ hi
  cases Option.some.inj (hfa.symm.trans hfa')
  obtain ⟨c₂, hc₂, oc, ws, t, hoc, hd, hw⟩ := hh.obj _ _ hci
  cases Option.some.inj (hc'.symm.trans hc₂)
  exact fn_run K (fd := fnX sh.name sh.qual sh.params sh.body sh.scope clos .none .none doc sh.pm none (.ref c') ctv) (o := fnObj sh clos doc c' ctv) (bnd := bnd) (Fb := Fb) (flag := false) rfl rfl (hbind _ _ _ _) (fun q => by cases q) (fun cs A X φ env s S a S' _ => hb cs A X φ env s S a S') hco hgen hk rfl rfl ho ⟨c', oc, ws, t, rfl, hoc, hd, hw⟩ hcl hR hh hv rfl .nil e
end
end Mine
end
section
open PySem PySem.W PyProof.Rows
set_option Elab.async false
set_option maxRecDepth 100000
set_option linter.all false
set_option autoImplicit false
namespace Mine
/-! what is left behind may be forgotten -/
inductive AV.Lt (n : Nat) : AV → Prop
  | c (v : Value) : AV.Lt n (.c v)
  | int (i : Int) : AV.Lt n (.int i)
  | str (s : Str) : AV.Lt n (.str s)
  | strT (b : Bool) (T : Nat) (s : Str) : AV.Lt n (.strT b T s)
  | obj {i : Nat} : i < n → AV.Lt n (.obj i)
  | tup {l : List AV} : (∀ a ∈ l, AV.Lt n a) → AV.Lt n (.tup l)
noncomputable def AO.Lt (n : Nat) : AO → Prop
  | .list l => ∀ a ∈ l, AV.Lt n a
  | .ns es => ∀ x v, es.lookup x = some v → AV.Lt n v
  | .inst _ d => d < n
  | .cell none => True
  | .cell (some v) => AV.Lt n v
  | .dict es => ∀ a ∈ es.map (·.2), AV.Lt n a
  | .fn _ cs ci => ci < n ∧ ∀ x i, cs.lookup x = some i → i < n
  | .crec _ => True
  | .tab _ _ => True
  | .meth _ x => x < n
  | .citer none => True
  | .citer (some m) => m.2 < n
  | .opq _ => True
theorem pre_back {φ φ' : List Addr} (p : Pre φ φ') {i : Nat} {a : Addr} (e : φ'[i]? = some a) (h : i < φ.length) : φ[i]? = some a := by
  obtain ⟨ψ, rfl⟩ := p
  rwa [List.getElem?_append_left h] at e
theorem AV.Lt.obj_inv {n i : Nat} (l : AV.Lt n (.obj i)) : i < n := by cases l with | obj l => exact l
theorem AV.Lt.tup_inv {n : Nat} {l : List AV} (x : AV.Lt n (.tup l)) : ∀ a ∈ l, AV.Lt n a := by cases x with | tup l => exact l
theorem VRel.back {h : Heap} {X φ φ' : List Addr} (p : Pre φ φ') {v : AV} {r : Value} (x : VRel h X φ' v r) : AV.Lt φ.length v → VRel h X φ v r :=
  VRel.rec (motive_1 := fun v r _ => AV.Lt φ.length v → VRel h X φ v r) (motive_2 := fun l vs _ => (∀ a ∈ l, AV.Lt φ.length a) → VRels h X φ l vs) (fun v _ => .c v) (fun i t _ => .int i t) (fun s t _ => .str s t) (fun hx ht _ ih l => .tup hx ht (ih l.tup_inv)) (fun e l => .obj (pre_back p e l.obj_inv)) (fun s _ e _ => .strT s e) (fun _ => .nil)
    (fun _ _ a b l => .cons (a (l _ List.mem_cons_self)) (b fun x hx => l x (List.mem_cons_of_mem _ hx))) x
theorem VRels.back {h : Heap} {X φ φ' : List Addr} (p : Pre φ φ') {l : List AV} {vs : List Value} (x : VRels h X φ' l vs) : (∀ a ∈ l, AV.Lt φ.length a) → VRels h X φ l vs :=
  x.ind (P := fun l vs => (∀ a ∈ l, AV.Lt φ.length a) → VRels h X φ l vs) (fun _ => .nil) fun a _ ih l => .cons (a.back p (l _ List.mem_cons_self)) (ih fun x hx => l x (List.mem_cons_of_mem _ hx))
theorem VRel.lt {h : Heap} {X φ : List Addr} {v : AV} {r : Value} (x : VRel h X φ v r) : AV.Lt φ.length v :=
  VRel.rec (motive_1 := fun v _ _ => AV.Lt φ.length v) (motive_2 := fun l _ _ => ∀ a ∈ l, AV.Lt φ.length a) (fun v => .c v) (fun i _ => .int i) (fun s _ => .str s) (fun _ _ _ ih => .tup ih) (fun e => .obj (List.getElem?_eq_some_iff.mp e).1) (fun s _ _ => .strT _ _ s) (fun _ h => nomatch h) (fun _ _ a b => List.forall_mem_cons.mpr ⟨a, b⟩) x
theorem VRels.lt {h : Heap} {X φ : List Addr} {l : List AV} {vs : List Value} (x : VRels h X φ l vs) : ∀ a ∈ l, AV.Lt φ.length a :=
  x.ind (P := fun l _ => ∀ a ∈ l, AV.Lt φ.length a) (fun _ h => nomatch h) fun a _ ih => List.forall_mem_cons.mpr ⟨a.lt, ih⟩
theorem NsRel.lt {h : Heap} {X φ : List Addr} {es m} (x : NsRel h X φ es m) (y : Str) (v : AV) (e : es.lookup y = Option.some v) : AV.Lt φ.length v := by
  have := x y; rw [e] at this; obtain ⟨r, _, w⟩ := this; exact w.lt
theorem NsRel.back {h : Heap} {X φ φ' : List Addr} (p : Pre φ φ') {es m} (x : NsRel h X φ' es m) (l : ∀ x v, es.lookup x = Option.some v → AV.Lt φ.length v) : NsRel h X φ es m := by
  intro y
  have z := x y
  cases e : es.lookup y with
  | none => rw [e] at z; exact z
  | some v => rw [e] at z; obtain ⟨r, q, w⟩ := z; exact ⟨r, q, w.back p (l y v e)⟩
section
variable {G : Glob} {n : Nat} {fr : Fm}
theorem ORel.lt {h : Heap} {X φ : List Addr} {ao : AO} {a : Addr} (x : ORel G h X φ ao a) : AO.Lt φ.length ao := by
  cases ao with
  | list l => exact x.elim fun vs x => x.elim fun n x => x.2.lt
  | ns es => exact x.elim fun m x => x.2.lt
  | inst C d => exact x.elim fun da x => (List.getElem?_eq_some_iff.mp x.1).1
  | cell v =>
    cases v with
    | none => trivial
    | some v => exact x.elim fun r x => x.2.lt
  | dict es => exact x.elim fun o x => x.elim fun es' x => x.elim fun ep x => x.elim fun kvs x => x.2.2.2.2.2.2.2.lt
  | fn sh cs ci => exact x.elim fun c' x => x.elim fun ctv x => x.elim fun doc x => x.elim fun clos x => ⟨(List.getElem?_eq_some_iff.mp x.1).1, fun y i e => (x.2.1 y i e).elim fun a z => (List.getElem?_eq_some_iff.mp z.1).1⟩
  | crec q => trivial
  | tab P f => trivial
  | meth f y => exact x.elim fun ma x => (List.getElem?_eq_some_iff.mp x.1).1
  | citer m =>
    cases m with
    | none => trivial
    | some m => exact x.elim fun ma x => x.elim fun t x => (List.getElem?_eq_some_iff.mp x.1).1
  | opq T => trivial
theorem ORel.back {h : Heap} {X φ φ' : List Addr} (p : Pre φ φ') {ao : AO} {a : Addr} (x : ORel G h X φ' ao a) (q : AO.Lt φ.length ao) : ORel G h X φ ao a := by
  cases ao with
  | list l => exact x.elim fun vs x => x.elim fun n x => ⟨vs, n, x.1, x.2.back p q⟩
  | ns es => exact x.elim fun m x => ⟨m, x.1, x.2.back p q⟩
  | inst C d => exact x.elim fun da x => ⟨da, pre_back p x.1 q, x.2⟩
  | cell v =>
    cases v with
    | none => exact x
    | some v => exact x.elim fun r x => ⟨r, x.1, x.2.back p q⟩
  | dict es => exact x.elim fun o x => x.elim fun es' x => x.elim fun ep x => x.elim fun kvs x => ⟨o, es', ep, kvs, x.1, x.2.1, x.2.2.1, x.2.2.2.1, x.2.2.2.2.1, x.2.2.2.2.2.1, x.2.2.2.2.2.2.1, x.2.2.2.2.2.2.2.back p q⟩
  | fn sh cs ci => exact x.elim fun c' x => x.elim fun ctv x => x.elim fun doc x => x.elim fun clos x => ⟨c', ctv, doc, clos, pre_back p x.1 q.1, fun y i e => (x.2.1 y i e).elim fun a z => ⟨a, pre_back p z.1 (q.2 y i e), z.2⟩, x.2.2⟩
  | crec _ => exact x
  | tab P f => exact x
  | meth f y => exact x.elim fun ma x => ⟨ma, pre_back p x.1 q, x.2⟩
  | citer m =>
    cases m with
    | none => exact x
    | some m => exact x.elim fun ma x => x.elim fun t x => ⟨ma, t, pre_back p x.1 q, x.2⟩
  | opq T => exact x
noncomputable def Fits (H H' : List AO) : Prop := H'.length = H.length ∧ ∀ (i : Nat) (ao : AO), H'[i]? = some ao → H[i]? = some ao ∨ AO.Lt H.length ao
theorem Hd.gc {X φ φ' : List Addr} {H H' g : List AO} {s s' : Shared} (hh : Hd G X φ H s) (p : Pre φ φ') (h : Hd G X φ' (H' ++ g) s') (f : Fits H H') : Hd G X φ H' s' := by
  refine ⟨h.kin, hh.kφ, h.kX, hh.nd, h.xx, hh.xφ, by rw [hh.len, f.1], fun i ao e => ?_, h.os, h.gens⟩
  have hi : i < H'.length := (List.getElem?_eq_some_iff.mp e).1
  obtain ⟨a, ha, r⟩ := h.obj i ao (by rw [List.getElem?_append_left hi]; exact e)
  refine ⟨a, pre_back p ha (by rw [hh.len, ← f.1]; exact hi), r.back p ?_⟩
  rcases f.2 i ao e with z | z
  · obtain ⟨_, _, r'⟩ := hh.obj i ao z; exact r'.lt
  · rw [hh.len]; exact z
theorem HPt.gc {X φ φ' : List Addr} {H H' g : List AO} {s s' : Shared} (hh : Hd G X φ H s) (p : HPt G X φ s (H' ++ g) φ' s') (f : Fits H H') : HPt G X φ s H' φ s' :=
  ⟨.refl _ _, hh.gc p.nx.pre p.hd f, p.kp⟩
theorem HAfter.gc {X φ : List Addr} {H H' g : List AO} {s s' : Shared} {v : AV} {r : Value} (hh : Hd G X φ H s) (h : HAfter G X φ s VRel v (H' ++ g) r s') (f : Fits H H') (l : AV.Lt H.length v) : HAfter G X φ s VRel v H' r s' := by
  obtain ⟨φ', p, hr⟩ := h
  exact ⟨φ, p.gc hh f, hr.back p.nx.pre (by rw [hh.len]; exact l)⟩
theorem FOk.gc {f : Value} {F F' : FnT} (h : FOk G n f F) (k : ∀ H args kw v H', F' H args kw = some (v, H') → ∃ g, F H args kw = some (v, H' ++ g) ∧ Fits H H' ∧ AV.Lt H.length v) : FOk G n f F' := by
  intro A X φ s H args kw vs kvs v H' hR hh hv hkn hkv e
  obtain ⟨g, e', hf, hl⟩ := k _ _ _ _ _ e
  exact wp_mono' (h A X φ s H args kw vs kvs v _ hR hh hv hkn hkv e') fun r s' z => z.gc hh hf hl
theorem FOkC.gc {f : Value} {F F' : FnT} (h : FOkC G n f F) (k : ∀ H args kw v H', F' H args kw = some (v, H') → ∃ g, F H args kw = some (v, H' ++ g) ∧ Fits H H' ∧ AV.Lt H.length v) : FOkC G n f F' := by
  intro A X φ s H args kw vs kvs v H' hR hh hv hkn hkv e
  obtain ⟨g, e', hf, hl⟩ := k _ _ _ _ _ e
  refine codeAny_mono (h A X φ s H args kw vs kvs v _ hR hh hv hkn hkv e') fun r s' z => ?_
  cases r with
  | error e => exact z
  | ok fl =>
    cases fl with
    | ret w => exact HAfter.gc hh z hf hl
    | _ => exact z
theorem Fits.refl (H : List AO) : Fits H H := ⟨rfl, fun i ao e => .inl e⟩
theorem Fits.set {H : List AO} {i : Nat} {ao : AO} (h : AO.Lt H.length ao) : Fits H (H.set i ao) := ⟨by simp, fun j a e => by
  by_cases z : i = j
  · subst z
    by_cases l : i < H.length
    · rw [List.getElem?_set_self l] at e; cases e; exact .inr h
    · rw [List.getElem?_eq_none (by simp; omega)] at e; cases e
  · rw [List.getElem?_set_ne z] at e; exact .inl e⟩
theorem Fits.trans {H H' H'' : List AO} (h : Fits H H') (k : Fits H' H'') : Fits H H'' := ⟨k.1.trans h.1, fun i ao e => by
  rcases k.2 i ao e with z | z
  · exact h.2 i ao z
  · rw [h.1] at z; exact .inr z⟩
/-- a test that leaves garbage -/
theorem BOk.gc {e : Expr} {F F' : St → Option (Bool × St)} (h : BOk G n fr e F) (k : ∀ S b S', F' S = some (b, S') → S' = S ∧ ∃ g, F S = some (b, ⟨S.hp ++ g, S.loc⟩)) : BOk G n fr e F' := by
  intro A X φ env s S b S' hR hE hW q
  obtain ⟨rfl, g, e'⟩ := k _ _ _ q
  refine wp_mono' (h A X φ env s S' b _ hR hE hW e') fun r s' ⟨φ', p, hr⟩ => ⟨φ, ⟨.refl _ _, ⟨hW.hd.gc p.nx.pre p.wd.hd (.refl _), hW.Lφ, hW.LX, hW.LK, ?_⟩, p.kp⟩, hr⟩
  obtain ⟨m, hm, nr⟩ := p.wd.loc
  obtain ⟨m₀, _, nr₀⟩ := hW.loc
  exact ⟨m, hm, nr.back p.nx.pre nr₀.lt⟩
/-- what is never reached -/
theorem tok_never {α β : Type} {m : Env → Sem β} {rel : RelT α β} : TOk G n fr m rel (fun _ => none) := fun A X φ env s S a S' _ _ _ h => by cases h
theorem aok_never {m : Env → Value → Sem Unit} : AsOk G n fr m (fun _ _ => none) := fun A X φ env s S v r S' _ _ _ _ h => by cases h
theorem TOk.up {α β : Type} {k : Nat} {m : Env → Sem β} {rel : RelT α β} {F : St → Option (α × St)} (h : TOk G k fr m rel F) (l : k ≤ n) : TOk G n fr m rel F := fun A X φ env s S a S' hR => h A X φ env s S a S' (hR.le l)
end
end Mine
end
section
open PySem PySem.W PyProof.Rows
set_option Elab.async false
set_option maxRecDepth 100000
set_option linter.all false
set_option autoImplicit false
namespace Mine
section
variable {G : Glob} {n : Nat} {A : Around} {E : Value → Shared → Prop}
/-! a walk over signs whose tokens are told -/
theorem str_drawT {X φ : List Addr} {s : Shared} {it : Addr} {x : Str} {t : Tok} {i c T : Nat} (hs : s.heap.IsStrIter it "str_ascii_iterator" x t i) (q : x.cps[i]? = some c) (h0 : 0 < T) (hT : T ≤ s.toks) (A : Around) (E : Value → Shared → Prop) (Q : Value → Shared → Prop)
    (hQ : ∀ r h' t', Heap.SameBut it s.heap h' → VRel h' X φ (.strT true T ⟨#[c]⟩) r → Leaf h' X φ (.seq ((x.cps.toList.drop (i + 1)).map chrA)) it → Inner (.seq ((x.cps.toList.drop (i + 1)).map chrA)) it h' → Q r { s with heap := h', toks := t' }) : wpAny (model G.prog G.w) A (Builtin.SmallTypes.nextOf (.ref it)) Q E s :=
  wpAny_nextOf_ascii_item hs q fun h' hs' hsb => hQ _ h' _ hsb (.strT _ ⟨h0, fun _ => hT, fun z => by cases z⟩) (.str hs') (.inl ⟨_, _, _, hs'⟩)
end
section
variable {G : Glob} {n : Nat} {fr : Fm}
/-- a block that may count on a line of tokens -/
noncomputable def BdOkT (T : Nat) (G : Glob) (n : Nat) (fr : Fm) (b : List Stmt) (F : St → Option (AFl × St)) : Prop :=
  ∀ (A : Around) (X φ : List Addr) (env : Env) (s : Shared) (S : St) (a : AFl) (S' : St), T ≤ s.toks → Room n A → EnvOk fr env φ → Wd G X φ env.locals S s → F S = some (a, S') →
    wpAny (model G.prog G.w) A (execs b env) (After G X φ env.locals s FlRel a S') noE s
theorem fn_codeT {A : Around} {mg mb : Names} (K : GOk G mg mb) {a : Addr} {o : Obj} {fd : FuncData} {body : List Stmt} {bnd : List AO → List AV → List (Str × AV) → Option (List (Str × AV) × List AO)} {cs₀ : List (Str × Nat)} {Fb : List (Str × Nat) → St → Option (AFl × St)}
    (hdata : o.data = .func fd) (hbody : fd.body = .stmts body) (hbind : BindOk G fd bnd) 
    {T : Nat} (hb : ∀ cs, BdOkT T G n ⟨fd.scope, cs⟩ body (Fb cs)) (hco : fd.scope.isCoroutine = false) (hgen : fd.scope.isGenerator = false) (hk : fd.scope.kind = .function) (hgl : fd.globals = mainGlobals) (hbu : fd.builtins = builtinsNs)
    {X φ : List Addr} {s : Shared} {H : List AO} {args : List AV} {kw : List (Str × AV)} {vs : List Value} {kvs : List (Str × Value)} {v : AV} {H' : List AO} (ho : s.heap.get? a = some o) (hcd : s.heap.CodeRec fd.code fd.qualname) (hcl : CellsRel φ cs₀ fd.closure)
    (hT : T ≤ s.toks) (hR : Room (n + 1) A) (hh : Hd G X φ H s) (hv : VRels s.heap X φ args vs) (hkn : kvs.map (·.1) = kw.map (·.1)) (hkv : VRels s.heap X φ (kw.map (·.2)) (kvs.map (·.2))) (h : fnF fd.scope bnd cs₀ Fb H args kw = some (v, H')) :
    codeAny (model G.prog G.w) A (.call (.ref a) ⟨vs, kvs⟩) (fun r s' => match r with | .ok (.ret w) => HAfter G X φ s VRel v H' w s' | .ok _ => False | .error e => noE e s') s :=
  fn_codeA K hdata hbody hbind (flag := false) (fun q => by cases q) (fun cs A X φ env s S a S' h _ _ _ => hb cs A X φ env s S a S' h) hco hgen hk hgl hbu ho hcd hcl hT hR hh hv hkn hkv h
theorem nameF_same {mg mb : Names} {x : Str} {S S' : St} {v : AV} (h : nameF mg mb fr x S = some (v, S')) : S' = S :=
  nameE h (fun _ _ e => e.symm) (fun _ _ _ _ e => e.symm) fun _ _ _ _ e => e.symm
theorem VRel.strT_inv {h : Heap} {X φ : List Addr} {b : Bool} {T : Nat} {x : Str} {r : Value} (e : VRel h X φ (.strT b T x) r) : ∃ t, r = .str x t ∧ 0 < T ∧ (b = true → T ≤ t) ∧ (b = false → 0 < t ∧ t < T) := by
  cases e; exact ⟨_, rfl, by assumption⟩
theorem isSame_apart {M : Model} {A : Around} {E : Value → Shared → Prop} {s : Shared} {y z : Str} {u v : Tok} {Q : Bool → Shared → Prop} (h0 : (u == 0 || v == 0) = false) (huv : (u == v) = false) (hb : NoneBooked s.heap) (hq : ∀ b, (b = true → y = z) → Q b s) : wpAny M A (isSame (.str y u) (.str z v)) Q E s := by
  by_cases e : y = z
  · exact wpAny_isSame_str h0 hb fun b => hq b fun _ => e
  · exact wpAny_of_eq (isSame_str_other y z u v h0 huv (by simpa using e)) (hq false fun q => by cases q)
noncomputable def AV.strT? : AV → Option (Bool × Nat × Str)
  | .strT b T x => some (b, T, x)
  | _ => none
theorem AV.strT_of {a : AV} {p : Bool × Nat × Str} (h : a.strT? = some p) : a = .strT p.1 p.2.1 p.2.2 :=
  elimE (p := fun p => a = .strT p.1 p.2.1 p.2.2) (by cases a <;> first | trivial | rfl) h
noncomputable def isOrEqF (mg mb : Names) (fr : Fm) (j b : Str) (S : St) : Option (Bool × St) := thenO (nameF mg mb fr j S) fun a _ => thenO (nameF mg mb fr b S) fun c _ => a.strT?.bind fun p => c.strT?.bind fun q => if p.1 = true ∧ q.1 = false ∧ p.2.1 = q.2.1 then some (decide (p.2.2 = q.2.2), S) else none
theorem isOrEq_of {mg mb : Names} {fr : Fm} {j b : Str} {S : St} {T : Nat} {x y : Str} (h : nameF mg mb fr j S = some (.strT true T y, S)) (k : nameF mg mb fr b S = some (.strT false T x, S)) : isOrEqF mg mb fr j b S = some (decide (y = x), S) :=
  thenI h (thenI k (bindI rfl (bindI rfl (if_pos ⟨rfl, rfl, rfl⟩))))
theorem bok_isOrEq {mg mb : Names} (K : GOk G mg mb) (NB : ∀ h : Heap, (∀ p ∈ G.K, h.get? p.1 = some p.2) → NoneBooked h) {j b : Str} {p1 p2 p3 p4 p5 p6 pos : Pos} (hcj : (j == ("__classdict__" : Str)) = false) (hdj : (j == ("__debug__" : Str)) = false) (hcb : (b == ("__classdict__" : Str)) = false) (hdb : (b == ("__debug__" : Str)) = false) :
    BOk G n fr (.BoolOp .Or [.Compare (.Name j p1) [.Is] [.Name b p2] p3, .Compare (.Name j p4) [.Eq] [.Name b p5] p6] pos) (isOrEqF mg mb fr j b) := by
  intro A X φ env s S a S' hR hE hW h
  refine thenE h fun aj S₁ e1 h => thenE h fun ab S₂ e2 h => bindE h fun p hp h => bindE h fun q hq h => iteE h fun hT hz => ?_
  cases hz
  cases nameF_same e1
  cases nameF_same e2
  obtain ⟨b1, T, y⟩ := p
  obtain ⟨b2, T', x⟩ := q
  obtain ⟨h1, h2, h3⟩ := hT
  cases h1; cases h2; cases h3
  rw [AV.strT_of hp] at e1
  rw [AV.strT_of hq] at e2
  refine wpAny_isTrue_BoolOp (wpAny_allTrue_Or_cons ?_)
  refine wpAny_isTrue_Compare1 (wp_mono' (eok_name K hcj hdj A X φ env s S _ S hR hE hW e1) fun rj s₁ ⟨φ₁, q₁, hj⟩ => wp_mono' (eok_name K hcb hdb A X φ₁ env s₁ S _ S hR (hE.pre q₁.nx.pre) q₁.wd e2) fun rb s₂ ⟨φ₂, q₂, hb⟩ => ?_) rfl
  have hj := q₂.val q₁.wd hj
  have qq := q₁.trans q₂
  obtain ⟨tj, rfl, wj⟩ := hj.strT_inv
  obtain ⟨tb, rfl, wb⟩ := hb.strT_inv
  have h0 := wj.1
  have hj1 := wj.2.1 rfl
  have hb0 : @LT.lt Nat _ 0 tb := (wb.2.2 rfl).1
  have hb1 : @LT.lt Nat _ tb T := (wb.2.2 rfl).2
  have g1 : (tj == 0 || tb == 0) = false := by
    have e1 : tj ≠ 0 := fun z => by rw [z] at hj1; exact absurd (Nat.lt_of_lt_of_le h0 hj1) (Nat.lt_irrefl _)
    have e2 : tb ≠ 0 := fun z => by rw [z] at hb0; exact absurd hb0 (Nat.lt_irrefl _)
    simp [e1, e2]
  have g2 : (tj == tb) = false := by
    have e1 : tj ≠ tb := fun z => by rw [z] at hj1; exact absurd (Nat.lt_of_lt_of_le hb1 hj1) (Nat.lt_irrefl _)
    simp [e1]
  show wpAny _ A (isSame (.str y tj) (.str x tb) >>= fun b => pure (Value.bool b)) _ _ _
  refine wpAny_bind (isSame_apart g1 g2 (NB _ q₂.wd.hd.kin) fun b hb => wpAny_pure (wpAny_truthy_bool ?_))
  cases b with
  | true =>
    have hb := hb rfl
    subst hb
    rw [decide_eq_true rfl]
    exact ⟨φ₂, qq, rfl⟩
  | false =>
    refine wpAny_allTrue_Or_cons ?_
    refine wpAny_isTrue_Compare1 (wp_mono' (eok_name K hcj hdj A X φ₂ env s₂ S _ S hR (hE.pre qq.nx.pre) q₂.wd e1) fun rj s₃ ⟨φ₃, q₃, hj⟩ => wp_mono' (eok_name K hcb hdb A X φ₃ env s₃ S _ S hR (hE.pre (qq.trans q₃).nx.pre) q₃.wd e2) fun rb s₄ ⟨φ₄, q₄, hb⟩ => ?_) rfl
    have q4 := (qq.trans q₃).trans q₄
    obtain ⟨_, rfl, _⟩ := hj.strT_inv
    obtain ⟨_, rfl, _⟩ := hb.strT_inv
    refine PyProof.Rows.eq_str (wpAny_truthy_bool ?_)
    have e : (y == x) = decide (y = x) := by by_cases z : y = x <;> simp [z]
    rw [e]
    cases q : decide (y = x) with
    | true => exact ⟨φ₄, q4, rfl⟩
    | false => exact wpAny_allTrue_Or_nil ⟨φ₄, q4, rfl⟩
end
end Mine
end
section
open PySem PySem.W PyProof.Rows
set_option Elab.async false
set_option maxRecDepth 100000
set_option linter.all false
set_option autoImplicit false
namespace Mine
noncomputable def loopT (Fa : AV → St → Option St) (Fb : St → Option (AFl × St)) (T : Nat) : Nat → List Nat → St → Option (AFl × St)
  | _, [], _ => none
  | k, c :: r, S => (Fa (.tup [.int k, .strT true T ⟨#[c]⟩]) S).bind fun S₁ => thenO (Fb S₁) fun fl S₂ => goOn fl (loopT Fa Fb T (k + 1) r S₂) S₂
noncomputable def one? {α : Type} (l : List α) : Option α := if l.length = 1 then l.head? else none
theorem one_of {α : Type} {l : List α} {a : α} (h : one? l = some a) : l = [a] := iteE h fun hl h => by
  obtain ⟨b, rfl⟩ := List.length_eq_one_iff.mp hl
  cases h
  rfl
noncomputable def unchr : List AV → Option (List Nat)
  | [] => some []
  | a :: r => a.str?.bind fun x => (one? x.cps.toList).bind fun c => (unchr r).map (c :: ·)
theorem unchr_eq {l : List AV} : ∀ {cs : List Nat}, unchr l = some cs → l = cs.map chrA := by
  induction l with
  | nil => intro cs h; cases h; rfl
  | cons a r ih =>
    intro cs h
    refine bindE h fun x ex h => bindE h fun c ec h => mapE h fun cs' e h => ?_
    cases h
    rw [AV.str_of ex, List.map_cons, ← ih e]
    obtain ⟨arr⟩ := x
    rw [show arr = #[c] from Array.toList_inj.mp (one_of ec)]
    rfl
section
variable {G : Glob} {n : Nat} {fr : Fm}
theorem for_loopT {elts : List Expr} {c0 : Nat} {tp : Pos} {body orelse : List Stmt} {Fa : AV → St → Option St} {Fb : St → Option (AFl × St)} (ha : AsOk G n fr (fun env v => assign (.Tuple elts c0 tp) env v) Fa) (hb : BdOk G n fr body Fb) {A : Around} (hR : Room n A) {X fp : List Addr} {env : Env} {it : Addr} {R : Result → Shared → Prop} (hdis : ∀ b ∈ fp, b ∉ X) {T : Nat} (h0 : 0 < T) (cs : List Nat) :
    ∀ (k : Nat) (S S' : St) (a : AFl) (φ : List Addr) (s : Shared), T ≤ s.toks → EnvOk fr env φ → Wd G (fp ++ X) φ env.locals S s → IRel s.heap (fp ++ X) φ (.enum k (.seq (cs.map chrA))) it fp → loopT Fa Fb T k cs S = some (a, S') →
      LoopEnd G X φ fp env.locals s a S' R → codeAny (model G.prog G.w) A (.forLoop (.Tuple elts c0 tp) (.ref it) body orelse env) R s := by
  induction cs with
  | nil => intro k S S' a φ s hT hE hW hI h hr; cases h
  | cons c cs ih =>
    intro k S S' a φ s hT hE hW hI h hr
    have hfp : ∀ b ∈ fp, b ∈ fp ++ X := fun b hb => List.mem_append.mpr (.inl hb)
    refine bindE h fun S₁ e1 h => thenE h fun fl S₂ e2 hg => ?_
    have step : wpAny (model G.prog G.w) A (pyNext (.ref it)) (fun r s₁ => ∃ rv, r = some rv ∧ wpAny (model G.prog G.w) A (letOwnedTupleGo (.Tuple elts c0 tp) (.ref it) rv) (fun _ s₂ => ItemAt s (fp ++ X) φ (.enum (k + 1) (.seq (cs.map chrA))) it fp (.tup [.int k, .strT true T ⟨#[c]⟩]) rv s₂) noE s₁) noE s := by
      generalize hsrc : Src.seq ((c :: cs).map chrA) = src at hI
      cases hI with
      | enum he hl hi hne =>
        rename_i e2 old
        cases hl with
        | str hs =>
          rename_i x t i
          cases q : x.cps[i]? with
          | none => rw [drop_none q] at hsrc; cases hsrc
          | some c' =>
            rw [drop_some q] at hsrc
            simp only [List.map_cons, Src.seq.injEq, List.cons.injEq, chrA, AV.str.injEq, Str.mk.injEq, Array.mk.injEq, and_true] at hsrc
            obtain ⟨rfl, hr2⟩ := hsrc
            have hr3 : cs.map chrA = (x.cps.toList.drop (i + 1)).map chrA := hr2
            rw [hr3]
            exact enum_nextT hW.hd (hfp _ (by simp)) (hfp _ (by simp)) he (.str hs) hi hne (str_drawT hs q h0 hT)
        | tup hi' ht htup hv =>
          obtain ⟨o, ho, hc, hd⟩ := hi'
          exact (inner_no hi ho (by rw [hc]; decide) (by rw [hc]; decide)).elim
        | range hr =>
          exact (inner_no hi hr (show (Value.type "range_iterator" == _) = false by decide) (show (Value.type "range_iterator" == _) = false by decide)).elim
        | list ha hi => cases hsrc
    exact for_turn ha hb hR hdis hT hE hW step e1 e2 hg hr fun φ₄ s₄ hT₄ hE₄ hW₄ hI₄ h hr₄ => ih (k + 1) S₂ S' a φ₄ s₄ hT₄ hE₄ hW₄ hI₄ h hr₄
noncomputable def ISrc.e0? : ISrc → Option (List AV)
  | .enum 0 (.seq l) => some l
  | _ => none
theorem ISrc.e0_of {s : ISrc} {l : List AV} (h : s.e0? = some l) : s = .enum 0 (.seq l) :=
  elimE (p := fun l => s = .enum 0 (.seq l)) (by cases s with | enum k s => (cases k <;> cases s <;> first | trivial | rfl) | _ => trivial) h
noncomputable def forTF (T : Nat) (Fi : St → Option (ISrc × St)) (Fa : AV → St → Option St) (Fb : St → Option (AFl × St)) (S : St) : Option (AFl × St) := thenO (Fi S) fun src S₁ => src.e0?.bind fun l => (unchr l).bind fun cs => loopT Fa Fb T 0 cs S₁
noncomputable def AFl.ret? : AFl → Option AV
  | .ret v => some v
  | _ => none
theorem AFl.ret_of {f : AFl} {v : AV} (h : f.ret? = some v) : f = .ret v :=
  elimE (p := fun v => f = .ret v) (by cases f <;> first | trivial | rfl) h
noncomputable def retF (F : St → Option (AFl × St)) (S : St) : Option (AFl × St) := thenO (F S) fun fl S' => fl.ret?.map fun v => (.ret v, S')
theorem bd_forT {T : Nat} (h0 : 0 < T) {elts : List Expr} {c0 : Nat} {tp : Pos} {iter : Expr} {body orelse : List Stmt} {pos : Pos} {Fi : St → Option (ISrc × St)} {Fa : AV → St → Option St} {Fb : St → Option (AFl × St)} (hi : ItOk G n fr iter Fi) (ha : AsOk G n fr (fun env v => assign (.Tuple elts c0 tp) env v) Fa) (hb : BdOk G n fr body Fb)
    (hs : ∀ env x, foldedSetIterable iter env x = pure x) : BdOkT T G n fr [.For (.Tuple elts c0 tp) iter body orelse pos] (retF (forTF T Fi Fa Fb)) := by
  intro A X φ env s S a S' hT hR hE hW q
  refine thenE q fun fl S₂ q' q => mapE q fun v ev q => thenE q' fun src S₁ e1 q' => bindE q' fun l el q' => bindE q' fun cs ecs q' => ?_
  cases q
  rw [AFl.ret_of ev] at q'
  rw [ISrc.e0_of el, unchr_eq ecs] at e1
  refine wpAny_execs_cons (wp_mono' (Q := After G X φ env.locals s FlRel (.ret v) S') ?_ fun f s₁ z => ?_)
  · refine wpAny_For (wpAny_mono (wpAny_toks_of hT (hi A X φ env s S _ S₁ hR hE hW e1)) (fun x s₁ hz => wpAny_mono (wpAny_toks_of hz.1 hz.2) (fun r s₂ hz => ?_) fun _ _ z => z.2.elim) fun _ _ z => z.2.elim) (hs env)
    obtain ⟨hT₂, φ₁, it, fp, rfl, nx, wd, kp, hI, hf, hX⟩ := hz
    exact for_loopT ha hb hR hX h0 cs 0 S₁ S' (.ret v) φ₁ s₂ hT₂ (hE.pre nx.pre) wd hI q' fun f s' φ' l w r => ⟨φ', Lp.pt nx kp hf l w, r⟩
  · obtain ⟨φ₁, p₁, hf⟩ := z
    cases f <;> first | exact hf.elim | exact ⟨φ₁, p₁, hf⟩
end
end Mine
end
section
open PySem PySem.W PyProof.Rows
set_option Elab.async false
set_option maxRecDepth 100000
set_option linter.all false
set_option autoImplicit false
namespace Mine
section
variable {G : Glob} {n : Nat} {fr : Fm}
/-- one sign of a word: a fresh str -/
theorem item_fresh {mg mb : Names} (K : GOk G mg mb) {wd : Str} {wp ip pos : Pos} {k kk : Nat} (hc : (wd == ("__classdict__" : Str)) = false) (hd : (wd == ("__debug__" : Str)) = false) {A : Around} {X φ : List Addr} {env : Env} {s : Shared} {S : St} {w : Str} {c : Nat} (hR : Room n A) (hE : EnvOk fr env φ) (hW : Wd G X φ env.locals S s)
    (e : nameF mg mb fr wd S = some (.str w, S)) (hk : k < 4096) (hw : w.cps[k]? = some c) :
    wpAny (model G.prog G.w) A (eval (.Subscript (.Name wd wp) (.Constant (.int k) kk ip) pos) env) (fun r s' => ∃ t φ', r = .str ⟨#[c]⟩ t ∧ 0 < t ∧ t + 1 = s'.toks ∧ Pt G X φ env.locals s S φ' s') noE s := by
  rw [eval_Subscript]
  refine wp_then (eok_name K hc hd A X φ env s S _ S hR hE hW e) fun x s₁ ⟨φ₁, p₁, hx⟩ => ?_
  cases hx with
  | str _ tw =>
    refine wpAny_bind (wpAny_holding (wpAny_Constant_int ?_))
    refine wpAny_bind (wpAny_standAt ?_)
    refine subscript_run (typeIs_str _ w tw) slot_str_getitem.lookup ?_
    have hl : k < w.length := (Array.getElem?_eq_some_iff.mp hw).1
    refine PyProof.Rows.getItem_str (by simp; omega) (c := c) (by rw [seqIndex_of (by omega) (by simpa using hl)]; simpa using hw) ?_
    obtain ⟨φ₂, p₂, _⟩ := HAfter.same (rel := fun _ _ _ (_ : Unit) (_ : Unit) => True) (a := ()) (r := ()) (t := s₁.toks + 1 + 1) p₁.wd.hd trivial
    exact ⟨s₁.toks + 1, φ₂, rfl, Nat.succ_pos _, rfl, p₁.trans (p₂.lift p₁.wd)⟩
noncomputable def idxP (y x : Str) : Option Nat := y.cps.toList.findIdx? fun c => (⟨#[c]⟩ : Str) == x
/-- what the search for a sign is asked to give -/
noncomputable def IdxOk (G : Glob) (n : Nat) (f : Value) : Prop :=
  ∀ (T : Nat) (A : Around) (X φ : List Addr) (s : Shared) (H : List AO) (y x : Str) (ra rb : Value) (i : Nat), 0 < T → T ≤ s.toks → Room n A → Hd G X φ H s → VRel s.heap X φ (.str y) ra → VRel s.heap X φ (.strT false T x) rb → y.cps.all (· < 128) = true → idxP y x = some i →
    wpAny (model G.prog G.w) A (call f [ra, rb]) (HAfter G X φ s VRel (.int i) H) noE s
noncomputable def idxF (mg mb : Names) (fr : Fm) (sg wd : Str) (k : Nat) (S : St) : Option (AV × St) := thenO (nameF mg mb fr sg S) fun ay _ => thenO (nameF mg mb fr wd S) fun aw _ => ay.str?.bind fun y => aw.str?.bind fun w => (w.cps[k]?).bind fun c => if y.cps.all (· < 128) = true then (idxP y ⟨#[c]⟩).map fun (j : Nat) => ((AV.int (j : Int)), S) else none
theorem eok_idx {mg mb : Names} (K : GOk G mg mb) {f : Value} (hI : IdxOk G n f) (hkf : KeepOk G f) {g sg wd : Str} {gp sp wp ip p1 pos : Pos} {k kk : Nat} (hg : fkind fr g = some .globalImplicit) (hv : gval mg mb g = some f) (hk : k < 4096)
    (hgc : (g == ("__classdict__" : Str)) = false) (hgd : (g == ("__debug__" : Str)) = false) (hsc : (sg == ("__classdict__" : Str)) = false) (hsd : (sg == ("__debug__" : Str)) = false) (hwc : (wd == ("__classdict__" : Str)) = false) (hwd : (wd == ("__debug__" : Str)) = false) :
    EOk G n fr (.Call (.Name g gp) [.Name sg sp, .Subscript (.Name wd wp) (.Constant (.int k) kk ip) p1] [] pos) (idxF mg mb fr sg wd k) := by
  intro A X φ env s S v S' hR hE hW h
  refine thenE h fun ay S₁ e1 h => thenE h fun aw S₂ e2 h => bindE h fun y ey h => bindE h fun w ew h => bindE h fun c hc h => iteE h fun hasc h => mapE h fun i e3 hz => ?_
  cases hz
  rw [AV.str_of ey] at e1
  rw [AV.str_of ew] at e2
  cases nameF_same e1
  cases nameF_same e2
  show wpAny _ A (eval (.Call (.Name g gp) _ [] pos) env) _ _ _
  rw [arm_eval_Call_Name']
  have e0 : nameF mg mb fr g S = some (.c f, S) := by rw [nameF_glob hg, hv]; rfl
  refine wp_then (eok_name K hgc hgd A X φ env s S _ S hR hE hW e0) fun r s₀ ⟨φ₀, p₀, hr⟩ => ?_
  cases hr.c_inv
  refine callWith_gen (kws := []) (noStar _ (fun _ => rfl) pos env) rfl ?_
  show wpAny _ A (spliced ((false, eval (.Name sg sp) env) :: (false, eval (.Subscript (.Name wd wp) (.Constant (.int k) kk ip) p1) env) :: [])) _ _ _
  refine Calls.spliced_cons (wp_mono' (eok_name K hsc hsd A X φ₀ env s₀ S _ S hR (hE.pre p₀.nx.pre) p₀.wd e1) fun ra s₁ ⟨φ₁, p₁, hra⟩ => ?_)
  refine Calls.spliced_cons (wp_mono' (item_fresh K hwc hwd hR (hE.pre (p₀.trans p₁).nx.pre) p₁.wd e2 hk hc) fun rb s₂ ⟨t, φ₂, hrb, ht, htk, p₂⟩ => ?_)
  subst hrb
  refine Calls.spliced_nil ?_
  refine wpAny_evalAll_nil ?_
  refine hkf A X φ₂ s₂ S.hp _ p₂.wd.hd fun kp hpk => ⟨hpk, ?_⟩
  have pp := (p₀.trans p₁).trans p₂
  refine wp_mono' (hI (t + 1) A X φ₂ s₂ S.hp y ⟨#[c]⟩ ra (.str ⟨#[c]⟩ t) i (Nat.succ_pos _) (Nat.le_of_eq htk) hR p₂.wd.hd (p₂.val p₁.wd hra) (.strT _ ⟨Nat.succ_pos _, fun z => (by cases z), fun _ => ⟨ht, Nat.lt_succ_self _⟩⟩) hasc e3) fun r s₃ h₃ => .of pp (h₃.lift p₂.wd)
end
end Mine
end
section
open PySem PySem.W PyProof.Rows
set_option Elab.async false
set_option maxRecDepth 100000
set_option linter.all false
set_option autoImplicit false
namespace Mine
structure FnAt (G : Glob) (a : Addr) (d : Dfn) (df kd : Value) (o : Obj) (fd : FuncData) : Prop where
  mem : (a, o) ∈ G.K
  cls : o.cls = .type "function"
  data : o.data = .func fd
  params : fd.params = d.1
  body : fd.body = .stmts d.2.1
  scope : fd.scope = d.2.2
  globals : fd.globals = mainGlobals
  builtins : fd.builtins = builtinsNs
  closure : fd.closure = []
  defaults : fd.defaults = df
  kwdefaults : fd.kwdefaults = kd
  code : ∀ h : Heap, (∀ p ∈ G.K, h.get? p.1 = some p.2) → h.CodeRec fd.code fd.qualname
noncomputable abbrev BndT := List AO → List AV → List (Str × AV) → Option (List (Str × AV) × List AO)
/-- parameters by place alone -/
noncomputable def bndP (names : List Str) : BndT := fun H args kw => if kw.length = 0 then (if args.length = names.length then some (names.zip args, H) else none) else none
section
variable {G : Glob} {n : Nat}
theorem bindok_of {fd : FuncData} {names : List Str} (h : ∀ vs : List Value, vs.length = names.length → bindArgs fd ⟨vs, []⟩ = pure (names.zip vs)) : BindOk G fd (bndP names) := by
  intro A X φ s H args kw vs kvs ab H' hh hv hkn hkv e
  refine iteE e fun hk e => iteE e fun hl e => someE e fun e1 e2 => ?_
  subst e1 e2
  cases List.eq_nil_of_length_eq_zero hk
  cases no_kw hkn rfl
  have l := hv.length
  rw [h vs (by omega)]
  refine wpAny_pure ⟨φ, .refl hh, ?_, ?_⟩
  · rw [zip_map1 (by omega), zip_map1 (by omega)]
  · rw [zip_map2 (by omega), zip_map2 (by omega)]; exact hv
theorem fokc_at {mg mb : Names} (K : GOk G mg mb) {a : Addr} {d : Dfn} {df kd : Value} {o : Obj} {fd : FuncData} (hf : FnAt G a d df kd o fd) {bnd : BndT} {Fb : List (Str × Nat) → St → Option (AFl × St)} {flag : Bool} (hbind : BindOk G fd bnd) (hflag : flag = true → ∀ H args kw ab H', bnd H args kw = some (ab, H') → FirstLocal d.2.2 ab)
    (hb : ∀ cs, BdOk1 G n ⟨d.2.2, cs⟩ d.2.1 (Fb cs) flag) (hco : d.2.2.isCoroutine = false) (hgen : d.2.2.isGenerator = false) (hk : d.2.2.kind = .function) : FOkC G (n + 1) (.ref a) (fnF d.2.2 bnd [] Fb) := by
  have e := hf.scope
  obtain ⟨h1, h2, h3, h4, h5, h6, h7, h8, h9, h10, h11, h12⟩ := hf
  have := fokc_def1 (n := n) (Fb := Fb) (flag := flag) K h1 h3 h12 h5 hbind (by rw [e]; exact hflag) (by rw [e]; exact hb) (by rw [e]; exact hco) (by rw [e]; exact hgen) (by rw [e]; exact hk) h7 h8
  rw [e] at this
  exact this
theorem FnAt.keep {a : Addr} {d : Dfn} {df kd : Value} {o : Obj} {fd : FuncData} (hf : FnAt G a d df kd o fd) : KeepOk G (.ref a) := keep_fun hf.mem hf.data
end
/-- a function's data: all is told but names -/
noncomputable abbrev fdS (d : Dfn) (df kd : Value) (nm ql : Str) (doc pm : Value) (an : Option Addr) (co ct : Value) : FuncData := ⟨nm, ql, d.1, .stmts d.2.1, d.2.2, mainGlobals, [], df, kd, doc, pm, an, co, ct, builtinsNs⟩
noncomputable abbrev BindTree (d : Dfn) (df kd : Value) (names : List Str) : Prop := ∀ nm ql doc pm an co ct (vs : List Value), vs.length = names.length → bindArgs (fdS d df kd nm ql doc pm an co ct) ⟨vs, []⟩ = pure (names.zip vs)
theorem bind0 {d : Dfn} {df kd : Value} (h : ∀ nm ql doc pm an co ct, bindArgs (fdS d df kd nm ql doc pm an co ct) ⟨[], []⟩ = pure []) : BindTree d df kd [] := fun nm ql doc pm an co ct vs hl => by
  cases vs with
  | nil => exact h nm ql doc pm an co ct
  | cons => cases hl
theorem bind1 {d : Dfn} {df kd : Value} {x : Str} (h : ∀ nm ql doc pm an co ct v, bindArgs (fdS d df kd nm ql doc pm an co ct) ⟨[v], []⟩ = pure [(x, v)]) : BindTree d df kd [x] := fun nm ql doc pm an co ct vs hl => by
  obtain ⟨v, rfl⟩ := List.length_eq_one_iff.mp hl
  exact h nm ql doc pm an co ct v
theorem bind2 {d : Dfn} {df kd : Value} {x y : Str} (h : ∀ nm ql doc pm an co ct v w, bindArgs (fdS d df kd nm ql doc pm an co ct) ⟨[v, w], []⟩ = pure [(x, v), (y, w)]) : BindTree d df kd [x, y] := fun nm ql doc pm an co ct vs hl => by
  cases vs with
  | nil => cases hl
  | cons v t =>
    obtain ⟨w, rfl⟩ := List.length_eq_one_iff.mp (Nat.succ.inj hl)
    exact h nm ql doc pm an co ct v w
theorem len3 {α : Type} {l : List α} (h : l.length = 3) : ∃ a b c, l = [a, b, c] := by
  cases l with
  | nil => cases h
  | cons a l =>
    cases l with
    | nil => cases h
    | cons b l =>
      obtain ⟨c, rfl⟩ := List.length_eq_one_iff.mp (Nat.succ.inj (Nat.succ.inj h))
      exact ⟨a, b, c, rfl⟩
theorem FnAt.fd_eq {G : Glob} {a : Addr} {d : Dfn} {df kd : Value} {o : Obj} {fd : FuncData} (hf : FnAt G a d df kd o fd) : ∃ nm ql doc pm an co ct, fd = fdS d df kd nm ql doc pm an co ct := by
  obtain ⟨h1, h2, h3, h4, h5, h6, h7, h8, h9, h10, h11, h12⟩ := hf
  clear h1 h3 h12
  cases fd
  simp only at h4 h5 h6 h7 h8 h9 h10 h11
  subst h4 h5 h6 h7 h8 h9 h10 h11
  exact ⟨_, _, _, _, _, _, _, rfl⟩
theorem bind_at {G : Glob} {a : Addr} {d : Dfn} {df kd : Value} {o : Obj} {fd : FuncData} (hf : FnAt G a d df kd o fd) {names : List Str} (h : BindTree d df kd names) : BindOk G fd (bndP names) := bindok_of fun vs hl => by
  obtain ⟨nm, ql, doc, pm, an, co, ct, e⟩ := hf.fd_eq
  rw [e]
  exact h _ _ _ _ _ _ _ vs hl
theorem run_p {G : Glob} {n : Nat} {mg mb : Names} (K : GOk G mg mb) {a : Addr} {d : Dfn} {df kd : Value} (hf : ∃ o fd, FnAt G a d df kd o fd) {names : List Str} {Fb : List (Str × Nat) → St → Option (AFl × St)} (hbind : BindTree d df kd names) (hb : ∀ cs, BdOk G n ⟨d.2.2, cs⟩ d.2.1 (Fb cs)) (hco : d.2.2.isCoroutine = false) (hgen : d.2.2.isGenerator = false) (hk : d.2.2.kind = .function) :
    FOkC G (n + 1) (.ref a) (fnF d.2.2 (bndP names) [] Fb) := by
  obtain ⟨o, fd, hf⟩ := hf
  exact fokc_at (flag := false) K hf (bind_at hf hbind) nofun (fun cs => BdOk.one (hb cs) _) hco hgen hk
/-- a name's meaning, told where it is asked -/
noncomputable def ovr (m : Names) (L : List (Str × Option Value)) : Names := fun x => match L.lookup x with
  | some r => r
  | none => m x
theorem ovr_eq {m : Names} {L : List (Str × Option Value)} (h : ∀ p ∈ L, m p.1 = p.2) : ovr m L = m := by
  funext x
  unfold ovr
  have key : ∀ (L : List (Str × Option Value)) (r : Option Value), L.lookup x = some r → (x, r) ∈ L := by
    intro L r
    induction L with
    | nil => intro e; cases e
    | cons p t ih =>
      intro e
      obtain ⟨y, w⟩ := p
      by_cases q : x = y
      · subst q
        simp only [List.lookup_cons_self, Option.some.injEq] at e
        subst e; exact List.mem_cons_self
      · have q' : (x == y) = false := by simp [q]
        simp only [List.lookup, q'] at e
        exact List.mem_cons_of_mem _ (ih e)
  cases e : L.lookup x with
  | none => rfl
  | some r => exact (h _ (key L r e)).symm
noncomputable def mbL : List (Str × Option Value) := [(Str.ofString "len", some (.builtin "len")), (Str.ofString "int", some (.type "int")), (Str.ofString "iter", some (.builtin "iter")), (Str.ofString "hasattr", some (.builtin "hasattr")), (Str.ofString "type", some (.type "type")), (Str.ofString "range", some (.type "range")), (Str.ofString "enumerate", some (.type "enumerate")), (Str.ofString "zip", some (.type "zip")), (Str.ofString "list", some (.type "list")), (Str.ofString "str", some (.type "str"))]
noncomputable abbrev FnK (G : Glob) (a : Addr) (d : Dfn) (df kd : Value) : Prop := ∃ o fd, FnAt G a d df kd o fd
/-- a pattern and its code -/
structure PatAt (G : Glob) (p : Addr) (code : Array Nat) : Prop where
  at' : ∃ c po co fs items k, (p, po) ∈ G.K ∧ (c, co) ∈ G.K ∧ po.cls = .type "re.Pattern" ∧ po.dict = none ∧ po.data = .fields fs ∧ Builtin.Re.reRawNat (fs.getD 2 .none) = 0 ∧ fs.getD 5 .none = .ref c ∧ (Builtin.Re.reRawNat (fs.getD 6 .none) == 1) = false ∧ co.data = .seq items k ∧ (items.map Builtin.Re.reRawOf).map (·.toNat) = code
noncomputable def cTsp : Array Nat := #[14, 14, 4, 1, 1, 9, 0, 4227896069, 939524097, 0, 0, 0, 0, 0, 0, 13, 11, 9, 0, 4227896069, 939524097, 0, 0, 0, 0, 0, 0, 1]
noncomputable def cNam : Array Nat := #[14, 10, 4, 1, 1, 22, 0, 31, 16, 127, 0, 13, 7, 22, 0, 31, 16, 127, 0, 1]
noncomputable def cVal : Array Nat := #[14, 14, 4, 1, 1, 9, 4294966783, 0, 0, 2147483648, 0, 0, 0, 0, 0, 13, 11, 9, 4294966783, 0, 0, 2147483648, 0, 0, 0, 0, 0, 1]
/-- what is told of the text's objects -/
structure Txt (G : Glob) (mg mb mn mh : Names) (script : List Int) : Prop where
  K : GOk G (ovr mg mgL) (ovr mb mbL)
  NB : ∀ h : Heap, (∀ p ∈ G.K, h.get? p.1 = some p.2) → NoneBooked h
  sm : ∃ o, (sysModules, o) ∈ G.K
  f_lexer : ∃ o fd, FnAt G 293 (dfn 21) .none .none o fd ∧ fd.qualname = Str.ofString "_law_lexer" ∧ fd.code = .ref 292
  DE : DefEnv G (ovr mg mgL) 292 288
  kl : KLists G fun a => if a = 349 then some (script.map .int) else none
  cn : Cls G 83 (ovr mn mnL)
  cnK : ∃ o, (83, o) ∈ G.K
  cnM : MakeOk G 83 59
  ch : Cls G 282 (ovr mh mhL)
  chK : ∃ o, (282, o) ∈ G.K
  chM : MakeOk G 282 174
  tsp : PatAt G 141 cTsp
  nam : PatAt G 146 cNam
  val : PatAt G 151 cVal
  f_strcoll : FnK G 45 (dfn 3) .none .none
  n_init : FnK G 59 (mth 5 0) .none .none
  n_read : FnK G 66 (mth 5 1) .none .none
  n_get : FnK G 73 (mth 5 2) .none .none
  n_push : FnK G 80 (mth 5 3) .none .none
  f_add : FnK G 94 (dfn 7) .none .none
  f_floordiv : FnK G 101 (dfn 8) .none .none
  f_mod : FnK G 108 (dfn 9) .none .none
  f_mul : FnK G 115 (dfn 10) .none .none
  f_sub : FnK G 122 (dfn 11) .none .none
  f_concat : FnK G 129 (dfn 12) .none .none
  f_indexOf : FnK G 136 (dfn 13) .none .none
  f_formatparam : ∃ T t1, FnK G 159 (dfn 18) (.ref T) .none ∧ ∃ oT k, (T, oT) ∈ G.K ∧ oT.data = .seq #[.none, .int 1 t1] k
  h_init : ∃ T, FnK G 174 (mth 19 0) (.ref T) .none ∧ ∃ oT k, (T, oT) ∈ G.K ∧ oT.data = .seq #[.none] k
  h_conv : FnK G 181 (mth 19 1) .none .none
  h_get : ∃ T, FnK G 229 (mth 19 8) (.ref T) .none ∧ ∃ oT k, (T, oT) ∈ G.K ∧ oT.data = .seq #[.none] k
  h_add : FnK G 279 (mth 19 16) .none .none
  f_numbers : FnK G 298 (dfn 22) .none .none
  f_signs : FnK G 305 (dfn 23) .none .none
  f_text : FnK G 312 (dfn 24) .none .none
  f_table : FnK G 317 (dfn 25) .none .none
  f_pairs : FnK G 322 (dfn 26) .none .none
  f_rounds : FnK G 329 (dfn 27) .none .none
  f_sums : FnK G 336 (dfn 28) .none .none
  f_order : FnK G 343 (dfn 29) .none .none
  f_law : FnK G 348 (dfn 30) .none .none
theorem FnK.keep {G : Glob} {a : Addr} {d : Dfn} {df kd : Value} (h : FnK G a d df kd) : KeepOk G (.ref a) := let ⟨_, _, k⟩ := h; k.keep
end Mine
end
section
open PySem PySem.W PyProof.Rows
set_option Elab.async false
set_option maxRecDepth 100000
set_option linter.all false
set_option autoImplicit false
namespace Mine
/-! how a composed function comes to its value -/
namespace D
variable {G : Glob} {mg mb : Names} {fr : Fm}
theorem ret {F : St → Option (AV × St)} {S S' : St} {v : AV} (h : F S = some (v, S')) : (F S).map (fun p => (AFl.ret p.1, p.2)) = some (.ret v, S') := by rw [h]; rfl
theorem expr {F : St → Option (AV × St)} {S S' : St} {v : AV} (h : F S = some (v, S')) : (F S).map (fun p => (AFl.next, p.2)) = some (.next, S') := by rw [h]; rfl
theorem next {F Fs : St → Option (AFl × St)} {S S₁ : St} {r : Option (AFl × St)} (h : F S = some (.next, S₁)) (k : Fs S₁ = r) : seqF F Fs S = r := thenI h k
theorem stop {F Fs : St → Option (AFl × St)} {S S₁ : St} {v : AV} (h : F S = some (.ret v, S₁)) : seqF F Fs S = some (.ret v, S₁) := thenI h rfl
theorem cont {F Fs : St → Option (AFl × St)} {S S₁ : St} (h : F S = some (.cont, S₁)) : seqF F Fs S = some (.cont, S₁) := thenI h rfl
theorem asg {F : St → Option (AV × St)} {Fa : AV → St → Option St} {S S₁ S₂ : St} {v : AV} (h : F S = some (v, S₁)) (k : Fa v S₁ = some S₂) : assignF F Fa S = some (.next, S₂) := thenI h (by rw [k]; rfl)
theorem two {α : Type} {Fl Fr : St → Option (AV × St)} {f : List AO → AV → AV → Option (α × List AO)} {S S₁ S₂ : St} {a b : AV} {v : α} {H : List AO} (h : Fl S = some (a, S₁)) (k : Fr S₁ = some (b, S₂)) (m : f S₂.hp a b = some (v, H)) : Mine.two Fl Fr f S = some (v, ⟨H, S₂.loc⟩) := thenI h (thenI k (thenI m rfl))
theorem tt {α : Type} {Fb : St → Option (Bool × St)} {Ft Fe : St → Option α} {S S₁ : St} {r : Option α} (h : Fb S = some (true, S₁)) (k : Ft S₁ = r) : test Fb Ft Fe S = r := thenI h k
theorem ff {α : Type} {Fb : St → Option (Bool × St)} {Ft Fe : St → Option α} {S S₁ : St} {r : Option α} (h : Fb S = some (false, S₁)) (k : Fe S₁ = r) : test Fb Ft Fe S = r := thenI h k
theorem nt {F : St → Option (Bool × St)} {S S' : St} {b : Bool} (h : F S = some (b, S')) : (F S).map (fun p => (!p.1, p.2)) = some (!b, S') := by rw [h]; rfl
theorem val {F : St → Option (AV × St)} {S S₁ : St} {v : AV} {b : Bool} {H : List AO} (h : F S = some (v, S₁)) (k : truthA S₁.hp v = some (b, H)) : valB F S = some (b, ⟨H, S₁.loc⟩) := thenI h (by rw [k]; rfl)
theorem cons {F : St → Option (AV × St)} {Fs : St → Option (List AV × St)} {S S₁ S₂ : St} {v : AV} {l : List AV} (h : F S = some (v, S₁)) (k : Fs S₁ = some (l, S₂)) : consF F Fs S = some (v :: l, S₂) := thenI h (thenI k rfl)
theorem shr {α : Type} {F : St → Option (List AV × St)} {f : List AV → St → α} {S S₁ : St} {l : List AV} (h : F S = some (l, S₁)) (k : l.length ≤ 4096) : short F f S = some (f l S₁) := thenI h (if_pos k)
theorem one {Fo : St → Option (AV × St)} {f : List AO → AV → Option (AV × List AO)} {S S₁ : St} {a v : AV} {H : List AO} (h : Fo S = some (a, S₁)) (k : f S₁.hp a = some (v, H)) : oneF Fo f S = some (v, ⟨H, S₁.loc⟩) := thenI h (thenI k rfl)
theorem args {Fa Fk : St → Option (List AV × St)} {names : List Str} {k : List AV → List (Str × AV) → St → Option (AV × St)} {S S₁ S₂ : St} {as ks : List AV} {r : Option (AV × St)} (h : Fa S = some (as, S₁)) (h2 : Fk S₁ = some (ks, S₂)) (h3 : k as (names.zip ks) S₂ = r) : argsF Fa Fk names k S = r := thenI h (thenI h2 h3)
theorem call0 {F : FnT} {first as : List AV} {kw : List (Str × AV)} {S : St} {v : AV} {H : List AO} (h : F S.hp (first ++ as) kw = some (v, H)) : callF F first as kw S = some (v, ⟨H, S.loc⟩) := thenI h rfl
theorem call {g : Str} {f : Value} {F : FnT} {Fa Fk : St → Option (List AV × St)} {names : List Str} {S S₁ S₂ : St} {as ks : List AV} {v : AV} {H : List AO} (h : nameF mg mb fr g S = some (.c f, S)) (ha : Fa S = some (as, S₁)) (hk : Fk S₁ = some (ks, S₂)) (e : F S₂.hp as (names.zip ks) = some (v, H)) :
    callNameF mg mb fr g f F Fa Fk names S = some (v, ⟨H, S₂.loc⟩) := thenI h (bindI rfl ((if_pos rfl).trans (args ha hk (call0 e))))
theorem meth {Fo : St → Option (AV × St)} {P : List AO → AV → Bool} {F : FnT} {Fa Fk : St → Option (List AV × St)} {names : List Str} {S S₀ S₁ S₂ : St} {a v : AV} {as ks : List AV} {H : List AO} (ho : Fo S = some (a, S₀)) (hp : P S₀.hp a = true) (ha : Fa S₀ = some (as, S₁)) (hk : Fk S₁ = some (ks, S₂)) (e : F S₂.hp (a :: as) (names.zip ks) = some (v, H)) :
    methF Fo P F Fa Fk names S = some (v, ⟨H, S₂.loc⟩) := thenI ho ((if_pos hp).trans (args ha hk (call0 e)))
theorem aug {Fx Fv : St → Option (AV × St)} {f : List AO → AV → AV → Option (AV × List AO)} {Fa : AV → St → Option St} {S S₁ S₂ : St} {v : AV} (h : Mine.two Fx Fv f S = some (v, S₁)) (k : Fa v S₁ = some S₂) : augF Fx Fv f Fa S = some (.next, S₂) := thenI h (by rw [k]; rfl)
theorem fn {scope : Scope} {bnd : BndT} {cs₀ : List (Str × Nat)} {Fb : List (Str × Nat) → St → Option (AFl × St)} {H H₁ : List AO} {args : List AV} {kw : List (Str × AV)} {ab : List (Str × AV)} {S S' : St} {v : AV} (h1 : bnd H args kw = some (ab, H₁)) (h2 : storeAll ⟨scope, (layA scope.names cs₀ H₁).1⟩ ab ⟨(layA scope.names cs₀ H₁).2, []⟩ = some S)
    (h3 : Fb (layA scope.names cs₀ H₁).1 S = some (.ret v, S')) {H' : List AO} (hh : S'.hp = H') : fnF scope bnd cs₀ Fb H args kw = some (v, H') := by
  subst hh; exact thenI h1 (bindI h2 (thenI h3 rfl))
theorem fn0 {scope : Scope} {bnd : BndT} {cs₀ : List (Str × Nat)} {Fb : List (Str × Nat) → St → Option (AFl × St)} {H H₁ : List AO} {args : List AV} {kw : List (Str × AV)} {ab : List (Str × AV)} {S S' : St} (h1 : bnd H args kw = some (ab, H₁)) (h2 : storeAll ⟨scope, (layA scope.names cs₀ H₁).1⟩ ab ⟨(layA scope.names cs₀ H₁).2, []⟩ = some S)
    (h3 : Fb (layA scope.names cs₀ H₁).1 S = some (.next, S')) {H' : List AO} (hh : S'.hp = H') : fnF scope bnd cs₀ Fb H args kw = some (.c .none, H') := by
  subst hh; exact thenI h1 (bindI h2 (thenI h3 rfl))
end D
theorem intr {scope : Scope} {cs : List (Str × Nat)} {env : Env} (h : env.scope = (⟨scope, cs⟩ : Fm).scope) (k : scope.kind = .function := by rfl) : interactive env = false := by
  unfold interactive; rw [h]; simp [k]
/-- contracts told by hand -/
noncomputable def K2i (f : Int → Int → Int) (c : Int → Int → Prop) [∀ a b, Decidable (c a b)] : FnT := k2 AV.int? AV.int? fun H a b => if c a b then some (.int (f a b), H) else none
theorem k2i_inv {f : Int → Int → Int} {c : Int → Int → Prop} [∀ a b, Decidable (c a b)] {H : List AO} {args : List AV} {kw : List (Str × AV)} {v : AV} {H' : List AO} (h : K2i f c H args kw = some (v, H')) : ∃ a b, args = [.int a, .int b] ∧ kw = [] ∧ c a b ∧ v = .int (f a b) ∧ H' = H :=
  k2E h fun a b x y ea ek e1 e2 h => iteE h fun hc h => someE h fun e3 e4 => ⟨x, y, by rw [ea, AV.int_of e1, AV.int_of e2], ek, hc, e3.symm, e4.symm⟩
noncomputable def strcollI (a b : Str) : Int := b2A (decide (b.cps.toList < a.cps.toList)) - b2A (decide (a.cps.toList < b.cps.toList))
noncomputable def K_strcoll : FnT := k2 AV.str? AV.str? fun H a b => some (.int (strcollI a b), H)
noncomputable def K_concat : FnT := k2 AV.str? AV.str? fun H a b => if a.length + b.length ≤ 4096 then some (.str (a ++ b), H) else none
noncomputable def K_signs : FnT := fun H args kw => if args.length = 0 ∧ kw.length = 0 then some (.str (Str.ofString "\"=A\\a"), H) else none
section
variable {G : Glob} {n : Nat} {mg mb mn mh : Names} {script : List Int}
theorem run_add (P : Txt G mg mb mn mh script) : FOkC G (n + 1) (.ref 94) (K2i (fun a b => a + b) (fun a b => True)) := by
  refine FOkC.weak (run_p P.K P.f_add (bind2 fun _ _ _ _ _ _ _ _ _ => rfl) (fun cs => (bd_cons (sok_return (eok_bin (eok_name P.K rfl rfl) (eok_name P.K rfl rfl) p_add))
      bd_nil)) rfl rfl rfl) fun H args kw v H' h => ?_
  · obtain ⟨a, b, rfl, rfl, hc, rfl, rfl⟩ := k2i_inv h
    rfl

theorem run_sub (P : Txt G mg mb mn mh script) : FOkC G (n + 1) (.ref 122) (K2i (fun a b => a - b) (fun a b => True)) := by
  refine FOkC.weak (run_p P.K P.f_sub (bind2 fun _ _ _ _ _ _ _ _ _ => rfl) (fun cs => (bd_cons (sok_return (eok_bin (eok_name P.K rfl rfl) (eok_name P.K rfl rfl) p_sub))
      bd_nil)) rfl rfl rfl) fun H args kw v H' h => ?_
  · obtain ⟨a, b, rfl, rfl, hc, rfl, rfl⟩ := k2i_inv h
    rfl

theorem run_mul (P : Txt G mg mb mn mh script) : FOkC G (n + 1) (.ref 115) (K2i (fun a b => a * b) (fun a b => Builtin.Int.intBits a ≤ 2 ^ 20 ∧ Builtin.Int.intBits b ≤ 2 ^ 20)) := by
  refine FOkC.weak (run_p P.K P.f_mul (bind2 fun _ _ _ _ _ _ _ _ _ => rfl) (fun cs => (bd_cons (sok_return (eok_bin (eok_name P.K rfl rfl) (eok_name P.K rfl rfl) p_mul))
      bd_nil)) rfl rfl rfl) fun H args kw v H' h => ?_
  · obtain ⟨a, b, rfl, rfl, hc, rfl, rfl⟩ := k2i_inv h
    exact D.fn rfl rfl (D.stop (D.ret (D.two rfl rfl (if_pos hc)))) rfl

theorem run_floordiv (P : Txt G mg mb mn mh script) : FOkC G (n + 1) (.ref 101) (K2i (fun a b => a.fdiv b) (fun a b => b ≠ 0 ∧ b.natAbs < 1073741824)) := by
  refine FOkC.weak (run_p P.K P.f_floordiv (bind2 fun _ _ _ _ _ _ _ _ _ => rfl) (fun cs => (bd_cons (sok_return (eok_bin (eok_name P.K rfl rfl) (eok_name P.K rfl rfl) p_fdiv))
      bd_nil)) rfl rfl rfl) fun H args kw v H' h => ?_
  · obtain ⟨a, b, rfl, rfl, hc, rfl, rfl⟩ := k2i_inv h
    exact D.fn rfl rfl (D.stop (D.ret (D.two rfl rfl (if_pos hc)))) rfl

theorem run_mod (P : Txt G mg mb mn mh script) : FOkC G (n + 1) (.ref 108) (K2i (fun a b => a.fmod b) (fun a b => b ≠ 0)) := by
  refine FOkC.weak (run_p P.K P.f_mod (bind2 fun _ _ _ _ _ _ _ _ _ => rfl) (fun cs => (bd_cons (sok_return (eok_bin (eok_name P.K rfl rfl) (eok_name P.K rfl rfl) p_fmt))
      bd_nil)) rfl rfl rfl) fun H args kw v H' h => ?_
  · obtain ⟨a, b, rfl, rfl, hc, rfl, rfl⟩ := k2i_inv h
    exact D.fn rfl rfl (D.stop (D.ret (D.two rfl rfl (fmtA_int hc)))) rfl

theorem run_strcoll (P : Txt G mg mb mn mh script) : FOkC G (n + 1) (.ref 45) K_strcoll := by
  refine FOkC.weak (run_p P.K P.f_strcoll (bind2 fun _ _ _ _ _ _ _ _ _ => rfl) (fun cs => (bd_cons (sok_return (eok_bin (eok_cmp (eok_name P.K rfl rfl) (eok_name P.K rfl rfl) p_gt rfl) (eok_cmp (eok_name P.K rfl rfl) (eok_name P.K rfl rfl) p_lt rfl) p_sub))
      bd_nil)) rfl rfl rfl) fun H args kw v H' h => ?_
  · refine k2E h fun a b x y ea ek e1 e2 h => someE h fun e3 e4 => ?_
    subst ea ek e3 e4
    rw [AV.str_of e1, AV.str_of e2]
    rfl

theorem run_signs (P : Txt G mg mb mn mh script) : FOkC G (n + 1) (.ref 305) K_signs := by
  refine FOkC.weak (run_p P.K P.f_signs (bind0 fun _ _ _ _ _ _ _ => rfl) (fun cs => (bd_cons (sok_return eok_str)
      bd_nil)) rfl rfl rfl) fun H args kw v H' h => ?_
  · refine iteE h fun hl h => someE h fun e3 e4 => ?_
    subst e3 e4
    cases List.eq_nil_of_length_eq_zero hl.1
    cases List.eq_nil_of_length_eq_zero hl.2
    rfl

theorem run_concat (P : Txt G mg mb mn mh script) : FOkC G (n + 1) (.ref 129) K_concat := by
  refine FOkC.weak (run_p P.K P.f_concat (bind2 fun _ _ _ _ _ _ _ _ _ => rfl) (fun cs => (bd_cons (sok_if (bok_not (bok_val (eok_call P.K fok_hasattr keep_builtin (esok_cons (eok_name P.K rfl rfl) (esok_cons eok_str esok_nil (fun _ => rfl)) (fun _ => rfl)) kws_nil (fun _ => rfl) rfl rfl) (fun _ _ => rfl))) (bd_cons tok_never
      (bd_cons tok_never
      bd_nil)) bd_nil)
      (bd_cons (sok_return (eok_bin (eok_name P.K rfl rfl) (eok_name P.K rfl rfl) p_add))
      bd_nil))) rfl rfl rfl) fun H args kw v H' h => ?_
  · refine k2E h fun a b x y ea ek e1 e2 h => iteE h fun hc h => someE h fun e3 e4 => ?_
    subst ea ek e3 e4
    rw [AV.str_of e1, AV.str_of e2]
    exact D.fn rfl rfl (D.next (D.ff rfl rfl) (D.stop (D.ret (D.two rfl rfl (addA_str hc))))) rfl

end
end Mine
end
section
open PySem PySem.W PyProof.Rows
set_option Elab.async false
set_option maxRecDepth 100000
set_option linter.all false
set_option autoImplicit false
namespace Mine
section
variable {G : Glob} {n : Nat} {mg mb mn mh : Names} {script : List Int}
theorem name_local {mg mb : Names} {fr : Fm} {x : Str} {S : St} {v : AV} (h : fkind fr x = some .local) (e : S.loc.lookup x = some v) : nameF mg mb fr x S = some (v, S) := by
  rw [nameF_local h, e]; rfl
theorem store_local {fr : Fm} {x : Str} {S : St} {v : AV} (h : fkind fr x = some .local) : storeF fr x v S = some ⟨S.hp, put S.loc x v⟩ := by
  exact storeF_local h
theorem unchr_map (l : List Nat) : unchr (l.map chrA) = some l := by
  induction l with
  | nil => rfl
  | cons c r ih => exact bindI (a := ⟨#[c]⟩) rfl (bindI (a := c) rfl (by rw [ih]; rfl))
theorem forTF_eq {T : Nat} {Fi : St → Option (ISrc × St)} {Fa : AV → St → Option St} {Fb : St → Option (AFl × St)} {S S₁ : St} {cs : List Nat} (h : Fi S = some (.enum 0 (.seq (cs.map chrA)), S₁)) : forTF T Fi Fa Fb S = loopT Fa Fb T 0 cs S₁ :=
  thenI h (bindI rfl (bindI (unchr_map cs) rfl))
theorem idx_loop {m1 m2 : Names} {cs0 : List (Str × Nat)} {T : Nat} {x : Str} (cs : List Nat) : ∀ (k i : Nat) (S : St), S.loc.lookup (Str.ofString "b") = some (.strT false T x) → cs.findIdx? (fun c => (⟨#[c]⟩ : Str) == x) = some i →
    ∃ S', loopT (tupStore [storeF ⟨(dfn 13).2.2, cs0⟩ (Str.ofString "i"), storeF ⟨(dfn 13).2.2, cs0⟩ (Str.ofString "j")])
      (seqF (test (isOrEqF m1 m2 ⟨(dfn 13).2.2, cs0⟩ (Str.ofString "j") (Str.ofString "b")) (seqF (fun S => (nameF m1 m2 ⟨(dfn 13).2.2, cs0⟩ (Str.ofString "i") S).map fun p => (.ret p.1, p.2)) fun S => some (.next, S)) fun S => some (.next, S)) fun S => some (.next, S)) T k cs S = some (.ret (.int ((k + i : Nat) : Int)), S') ∧ S'.hp = S.hp := by
  induction cs with
  | nil => intro k i S hb h; cases h
  | cons c cs ih =>
    intro k i S hb h
    have eF : tupStore [storeF ⟨(dfn 13).2.2, cs0⟩ (Str.ofString "i"), storeF ⟨(dfn 13).2.2, cs0⟩ (Str.ofString "j")] (.tup [.int k, .strT true T ⟨#[c]⟩]) S = some ⟨S.hp, put (put S.loc (Str.ofString "i") (.int k)) (Str.ofString "j") (.strT true T ⟨#[c]⟩)⟩ := rfl
    have lj : (put (put S.loc (Str.ofString "i") (.int k)) (Str.ofString "j") (.strT true T ⟨#[c]⟩)).lookup (Str.ofString "j") = some (.strT true T ⟨#[c]⟩) := by rw [put_lookup, if_pos rfl]
    have li : (put (put S.loc (Str.ofString "i") (.int k)) (Str.ofString "j") (.strT true T ⟨#[c]⟩)).lookup (Str.ofString "i") = some (.int k) := by rw [put_lookup, if_neg (by decide), put_lookup, if_pos rfl]
    have lb : (put (put S.loc (Str.ofString "i") (.int k)) (Str.ofString "j") (.strT true T ⟨#[c]⟩)).lookup (Str.ofString "b") = some (.strT false T x) := by rw [put_lookup, if_neg (by decide), put_lookup, if_neg (by decide)]; exact hb
    generalize hS : (⟨S.hp, put (put S.loc (Str.ofString "i") (.int k)) (Str.ofString "j") (.strT true T ⟨#[c]⟩)⟩ : St) = S₁ at eF
    have lj : S₁.loc.lookup (Str.ofString "j") = some (.strT true T ⟨#[c]⟩) := by rw [← hS]; exact lj
    have li : S₁.loc.lookup (Str.ofString "i") = some (.int k) := by rw [← hS]; exact li
    have lb : S₁.loc.lookup (Str.ofString "b") = some (.strT false T x) := by rw [← hS]; exact lb
    have hhp : S₁.hp = S.hp := by rw [← hS]
    have et : isOrEqF m1 m2 ⟨(dfn 13).2.2, cs0⟩ (Str.ofString "j") (Str.ofString "b") S₁ = some (decide ((⟨#[c]⟩ : Str) = x), S₁) := by
      exact isOrEq_of (name_local rfl lj) (name_local rfl lb)
    rw [List.findIdx?_cons] at h
    by_cases q : (⟨#[c]⟩ : Str) = x
    · have q' : ((⟨#[c]⟩ : Str) == x) = true := by simp [q]
      rw [if_pos q'] at h
      cases h
      exact ⟨_, bindI eF (thenI (D.stop (D.tt (et.trans (by rw [decide_eq_true q])) (D.stop (D.ret (name_local rfl li))))) rfl), hhp⟩
    · have q' : ((⟨#[c]⟩ : Str) == x) = false := by simp [q]
      rw [q', if_neg Bool.false_ne_true] at h
      refine mapE h fun j e hz => ?_
      cases hz
      obtain ⟨S', h', hp'⟩ := ih (k + 1) j S₁ lb e
      refine ⟨S', bindI eF (thenI (D.next (D.ff (et.trans (by rw [decide_eq_false q])) rfl) rfl) ?_), hp'.trans hhp⟩
      rw [show k + (j + 1) = k + 1 + j by omega]
      exact h'
theorem run_indexOf (P : Txt G mg mb mn mh script) : IdxOk G (n + 1) (.ref 136) := by
  intro T A X φ s H y x ra rb i h0 hT hR hh hra hrb hasc hidx
  obtain ⟨o, fd, hf⟩ := P.f_indexOf
  have hbind : BindOk G fd (bndP [Str.ofString "a", Str.ofString "b"]) := bind_at hf (bind2 fun _ _ _ _ _ _ _ _ _ => rfl)
  have hbody : ∀ cs, BdOkT T G n ⟨(dfn 13).2.2, cs⟩ (dfn 13).2.1 _ := fun cs =>
    bd_forT h0 (itok_call P.K (esok_cons (eok_name P.K rfl rfl) esok_nil (fun _ => rfl)) (fun _ => rfl) rfl rfl rfl rfl (fun A X φ L S s l vs src hR hW hv e => call_enum hW hv e))
      (aok_tuple (AssOk.cons aok_name (AssOk.cons aok_name AssOk.nil)) (fun _ => rfl))
      (bd_cons (sok_if (bok_isOrEq P.K P.NB rfl rfl rfl rfl) (bd_cons (sok_return (eok_name P.K rfl rfl)) bd_nil) bd_nil) bd_nil) (fun _ _ => rfl)
  obtain ⟨h1, h2, h3, h4, h5, h6, h7, h8, h9, h10, h11, h12⟩ := hf
  refine wpAny_call (fn_codeT (n := n) (T := T) P.K h3 h5 hbind (by rw [h6]; exact hbody) (by rw [h6]; rfl) (by rw [h6]; rfl) (by rw [h6]; rfl) h7 h8 (args := [.str y, .strT false T x]) (kw := []) (hh.kin _ h1) (h12 _ hh.kin) (cs₀ := []) (fun x i e => by cases e) hT hR hh (.cons hra (.cons hrb .nil)) rfl .nil ?_)
  rw [h6]
  obtain ⟨S', hl, hp⟩ := idx_loop (m1 := ovr mg mgL) (m2 := ovr mb mbL) (cs0 := []) (T := T) (x := x) y.cps.toList 0 i ⟨H, [(Str.ofString "a", .str y), (Str.ofString "b", .strT false T x)]⟩ rfl hidx
  have eE : enumK [.str y] H = some (.enum 0 (.seq (y.cps.toList.map chrA))) := if_pos hasc
  have eF : forTF T (fun S => thenO (consF (nameF (ovr mg mgL) (ovr mb mbL) ⟨(dfn 13).2.2, []⟩ (Str.ofString "a")) (fun S => some ([], S)) S) fun l S₁ => Option.map (fun x => (x, S₁)) (enumK l S₁.hp))
      (tupStore [storeF ⟨(dfn 13).2.2, []⟩ (Str.ofString "i"), storeF ⟨(dfn 13).2.2, []⟩ (Str.ofString "j")])
      (seqF (test (isOrEqF (ovr mg mgL) (ovr mb mbL) ⟨(dfn 13).2.2, []⟩ (Str.ofString "j") (Str.ofString "b")) (seqF (fun S => (nameF (ovr mg mgL) (ovr mb mbL) ⟨(dfn 13).2.2, []⟩ (Str.ofString "i") S).map fun p => (.ret p.1, p.2)) fun S => some (.next, S)) fun S => some (.next, S)) fun S => some (.next, S))
      ⟨H, [(Str.ofString "a", .str y), (Str.ofString "b", .strT false T x)]⟩ = some (AFl.ret (AV.int ↑(0 + i)), S') := by
    refine (forTF_eq (cs := y.cps.toList) (S₁ := ⟨H, [(Str.ofString "a", .str y), (Str.ofString "b", .strT false T x)]⟩) ?_).trans hl
    show Option.map (fun z => (z, (⟨H, [(Str.ofString "a", .str y), (Str.ofString "b", .strT false T x)]⟩ : St))) (enumK [.str y] H) = _
    rw [eE]
    rfl
  refine D.fn (S' := S') rfl rfl (thenI eF ?_) hp
  rw [Nat.zero_add]
  rfl
end
end Mine
end
section
open PySem PySem.W PyProof.Rows
set_option Elab.async false
set_option maxRecDepth 100000
set_option linter.all false
set_option autoImplicit false
namespace Mine
/-! what object has not -/
theorem lko_lineno : typeLookup (.type "object") (Str.ofString "lineno") = pure none := by rw [typeLookup_type, builtinLookup_eq_fast]; kernel_rfl
theorem lko_instream : typeLookup (.type "object") (Str.ofString "instream") = pure none := by rw [typeLookup_type, builtinLookup_eq_fast]; kernel_rfl
theorem lko_whitespace : typeLookup (.type "object") (Str.ofString "whitespace") = pure none := by rw [typeLookup_type, builtinLookup_eq_fast]; kernel_rfl
theorem lko_pushback : typeLookup (.type "object") (Str.ofString "pushback") = pure none := by rw [typeLookup_type, builtinLookup_eq_fast]; kernel_rfl
theorem lko_read : typeLookup (.type "object") (Str.ofString "read") = pure none := by rw [typeLookup_type, builtinLookup_eq_fast]; kernel_rfl
theorem lko_headers : typeLookup (.type "object") (Str.ofString "_headers") = pure none := by rw [typeLookup_type, builtinLookup_eq_fast]; kernel_rfl
theorem lko_read_char : typeLookup (.type "object") (Str.ofString "_read_char") = pure none := by rw [typeLookup_type, builtinLookup_eq_fast]; kernel_rfl
theorem lko_get_token : typeLookup (.type "object") (Str.ofString "get_token") = pure none := by rw [typeLookup_type, builtinLookup_eq_fast]; kernel_rfl
theorem lko_push_token : typeLookup (.type "object") (Str.ofString "push_token") = pure none := by rw [typeLookup_type, builtinLookup_eq_fast]; kernel_rfl
theorem lko_convert_string_type : typeLookup (.type "object") (Str.ofString "_convert_string_type") = pure none := by rw [typeLookup_type, builtinLookup_eq_fast]; kernel_rfl
theorem lko_get : typeLookup (.type "object") (Str.ofString "get") = pure none := by rw [typeLookup_type, builtinLookup_eq_fast]; kernel_rfl
theorem lko_add_header : typeLookup (.type "object") (Str.ofString "add_header") = pure none := by rw [typeLookup_type, builtinLookup_eq_fast]; kernel_rfl
section
variable {G : Glob} {n : Nat} {mg mb mn mh : Names} {script : List Int}
theorem met_fn {C : Addr} {mN : Names} (K : Cls G C mN) {name : Str} {f : Addr} {d : Dfn} {df kd : Value} (hf : mN name = some (.ref f)) (h : FnK G f d df kd) (hB : typeLookup (.type "object") name = pure none) :
    MetOk G name (.ref f) (isInst C name) :=
  let ⟨_, _, k⟩ := h; met_own K hf k.mem k.cls hB
theorem bound_fn {C : Addr} {mN : Names} (K : Cls G C mN) {attr : Str} {f : Addr} {d : Dfn} {df kd : Value} (hf : mN attr = some (.ref f)) (h : FnK G f d df kd) (hcn : (["__module__", "__name__", "__qualname__", "__doc__", "__annotations__"] : List Str).contains attr = false) (hB : typeLookup (.type "object") attr = pure none) {ex : Bool} :
    P1Ok G n (fun o => getAttr o attr ex) VRel (boundF C attr (.ref f)) := let ⟨_, _, k⟩ := h; p_bound K hf k.mem k.cls hcn ⟨_, hB⟩
theorem forC_fn {fr : Fm} {target iter : Expr} {body orelse : List Stmt} {pos : Pos} {Fi : St → Option (AV × St)} {Fa : AV → St → Option St} {Fb Fe : St → Option (AFl × St)} {k : Nat} (hi : EOk G n fr iter Fi) (ha : AsOk G n fr (fun env v => assign target env v) Fa) (hb : BdOk G n fr body Fb) (he : BdOk G n fr orelse Fe)
    (hN : NameTarget target = true) {f : Addr} {d : Dfn} {df kd : Value} {F : FnT} {m : Nat} (hF : FOkC G m (.ref f) F) (h : FnK G f d df kd) (hm : m + 1 ≤ n) (hs : ∀ env x, foldedSetIterable iter env x = pure x) :
    SOk G n fr (.For target iter body orelse pos) (forCF F (.ref f) Fi Fa Fb Fe k) := let ⟨_, _, q⟩ := h; sok_forC hi ha hb he hN hF q.mem q.data hm hs
theorem bd_cells {fr : Fm} {b : List Stmt} {x : Str} {F : Nat → St → Option (AFl × St)} (h : ∀ i, fr.cells.lookup x = some i → BdOk G n fr b (F i)) : BdOk G n fr b (fun S => match fr.cells.lookup x with | some i => F i S | none => none) := by
  cases e : fr.cells.lookup x with
  | none => exact tok_never
  | some i => exact h i e
noncomputable abbrev Bd (G : Glob) (n : Nat) (d : Dfn) (cs : List (Str × Nat)) := { F : St → Option (AFl × St) // BdOk G n ⟨d.2.2, cs⟩ d.2.1 F }
noncomputable def B_ninit (P : Txt G mg mb mn mh script) (n : Nat) (cs : List (Str × Nat)) : Bd G (n + 0) (mth 5 0) cs := ⟨_, (bd_cons (sok_assign eok_int (aok_attr P.cn P.cnK rfl lko_lineno (eok_name P.K rfl rfl)) (fun _ => rfl) (fun _ => rfl) (fun _ _ => rfl))
      (bd_cons (sok_assign (eok_name P.K rfl rfl) (aok_attr P.cn P.cnK rfl lko_instream (eok_name P.K rfl rfl)) (fun _ => rfl) (fun _ => rfl) (fun _ _ => rfl))
      (bd_cons (sok_assign eok_str (aok_attr P.cn P.cnK rfl lko_whitespace (eok_name P.K rfl rfl)) (fun _ => rfl) (fun _ => rfl) (fun _ _ => rfl))
      (bd_cons (sok_assign (eok_list esok_nil) (aok_attr P.cn P.cnK rfl lko_pushback (eok_name P.K rfl rfl)) (fun _ => rfl) (fun _ => rfl) (fun _ _ => rfl))
      bd_nil))))⟩
noncomputable def F_ninit (P : Txt G mg mb mn mh script) (n : Nat) : FnT := fnF (mth 5 0).2.2 (bndP [Str.ofString "self", Str.ofString "fp"]) [] fun cs => (B_ninit P n cs).1
theorem run_ninit (P : Txt G mg mb mn mh script) (n : Nat) : FOkC G (n + 1) (.ref 59) (F_ninit P n) := run_p P.K P.n_init (bind2 fun _ _ _ _ _ _ _ _ _ => rfl) (fun cs => (B_ninit P n cs).2) rfl rfl rfl
noncomputable def B_push (P : Txt G mg mb mn mh script) (n : Nat) (cs : List (Str × Nat)) : Bd G (n + 0) (mth 5 3) cs := ⟨_, (bd_cons (sok_expr (eok_meth (eok_attr (eok_name P.K rfl rfl) (p_getAttr P.cn rfl lko_pushback)) (met_list PySem.F.slot_list_append PySem.F.type_list_append) fok_append keep_builtin (esok_cons (eok_name P.K rfl rfl) esok_nil (fun _ => rfl)) kws_nil (fun _ => rfl) (fun _ => rfl) (fun _ => rfl) rfl) (fun env h => intr h) (fun _ => rfl))
      bd_nil)⟩
noncomputable def F_push (P : Txt G mg mb mn mh script) (n : Nat) : FnT := fnF (mth 5 3).2.2 (bndP [Str.ofString "self", Str.ofString "token"]) [] fun cs => (B_push P n cs).1
theorem run_push (P : Txt G mg mb mn mh script) (n : Nat) : FOkC G (n + 1) (.ref 80) (F_push P n) := run_p P.K P.n_push (bind2 fun _ _ _ _ _ _ _ _ _ => rfl) (fun cs => (B_push P n cs).2) rfl rfl rfl
noncomputable def pieceD : Dfn := asDfn ((dfn 21).2.1[2]?)
noncomputable def pieceQ : Str := Str.ofString "_law_lexer" ++ ".<locals>."
noncomputable def pieceSh (mg : Names) : FnSh := ⟨Str.ofString "_law_piece", pieceQ ++ Str.ofString "_law_piece", pieceD.1, pieceD.2.1, pieceD.2.2, (ovr mg mgL (Str.ofString "__name__")).getD .none⟩
noncomputable def B_piece (P : Txt G mg mb mn mh script) (n : Nat) (cs : List (Str × Nat)) : Bd G n pieceD cs := ⟨_, (bd_cons (sok_assign (eok_slice P.kl (eok_name P.K rfl rfl) (part_some (eok_call P.K fok_len keep_builtin (esok_cons (eok_name P.K rfl rfl) esok_nil (fun _ => rfl)) kws_nil (fun _ => rfl) rfl rfl)) (part_some (eok_bin (eok_call P.K fok_len keep_builtin (esok_cons (eok_name P.K rfl rfl) esok_nil (fun _ => rfl)) kws_nil (fun _ => rfl) rfl rfl) (eok_name P.K rfl rfl) p_add)) part_none) aok_name (fun _ => rfl) (fun _ => rfl) (fun _ _ => rfl))
      (bd_cons (sok_expr (eok_meth (eok_name P.K rfl rfl) (met_list PySem.F.slot_list_extend PySem.F.type_list_extend) fok_extend keep_builtin (esok_cons (eok_name P.K rfl rfl) esok_nil (fun _ => rfl)) kws_nil (fun _ => rfl) (fun _ => rfl) (fun _ => rfl) rfl) (fun env h => intr h) (fun _ => rfl))
      (bd_cons (sok_return (eok_name P.K rfl rfl))
      bd_nil)))⟩
noncomputable def F_piece (P : Txt G mg mb mn mh script) (n : Nat) (cs : List (Str × Nat)) : FnT := fnF pieceD.2.2 (bndP [Str.ofString "count"]) cs fun cs => (B_piece P n cs).1
theorem run_piece (P : Txt G mg mb mn mh script) (n : Nat) : ShOk G (n + 1) (pieceSh mg) (F_piece P n) :=
  shok_def P.K (fun clos doc c' ctv => bindok_of fun vs hl => by
    obtain ⟨v0, rfl⟩ := List.length_eq_one_iff.mp hl
    rfl) (fun cs => (B_piece P n cs).2) rfl rfl rfl
noncomputable def B_read (P : Txt G mg mb mn mh script) (n : Nat) (cs : List (Str × Nat)) : Bd G (n + 1) (mth 5 1) cs := ⟨_, (bd_cons (sok_assign (eok_ownCall P.cn (run_piece P n) rfl lko_read (eok_attr (eok_name P.K rfl rfl) (p_getAttr P.cn rfl lko_instream)) (esok_cons eok_int esok_nil (fun _ => rfl)) (fun _ => rfl) (fun _ => rfl) (fun _ => rfl) rfl) aok_name (fun _ => rfl) (fun _ => rfl) (fun _ _ => rfl))
      (bd_cons (sok_if (bok_cmp (eok_name P.K rfl rfl) eok_str p_eq rfl) (bd_cons (sok_augAttr P.cn P.cnK rfl lko_lineno (eok_name P.K rfl rfl) (p_getAttr P.cn rfl lko_lineno) eok_int p_iadd)
      bd_nil) bd_nil)
      (bd_cons (sok_return (eok_name P.K rfl rfl))
      bd_nil)))⟩
noncomputable def F_read (P : Txt G mg mb mn mh script) (n : Nat) : FnT := fnF (mth 5 1).2.2 (bndP [Str.ofString "self"]) [] fun cs => (B_read P n cs).1
theorem run_read (P : Txt G mg mb mn mh script) (n : Nat) : FOkC G (n + 2) (.ref 66) (F_read P n) := run_p P.K P.n_read (bind1 fun _ _ _ _ _ _ _ _ => rfl) (fun cs => (B_read P n cs).2) rfl rfl rfl
noncomputable def B_get (P : Txt G mg mb mn mh script) (n : Nat) (cs : List (Str × Nat)) : Bd G (n + 3) (mth 5 2) cs := ⟨_, (bd_cons (sok_if (bok_val (eok_attr (eok_name P.K rfl rfl) (p_getAttr P.cn rfl lko_pushback)) (fun _ _ => rfl)) (bd_cons (sok_return (eok_meth (eok_attr (eok_name P.K rfl rfl) (p_getAttr P.cn rfl lko_pushback)) (met_list PySem.F.slot_list_pop PySem.F.type_list_pop) fok_pop keep_builtin (esok_cons eok_int esok_nil (fun _ => rfl)) kws_nil (fun _ => rfl) (fun _ => rfl) (fun _ => rfl) rfl))
      bd_nil) bd_nil)
      (bd_cons (sok_assign eok_str aok_name (fun _ => rfl) (fun _ => rfl) (fun _ _ => rfl))
      (bd_cons (sok_assign (eok_call P.K fok_iter keep_builtin (esok_cons (eok_attr (eok_name P.K rfl rfl) (bound_fn P.cn rfl P.n_read rfl lko_read_char)) (esok_cons eok_str esok_nil (fun _ => rfl)) (fun _ => rfl)) kws_nil (fun _ => rfl) rfl rfl) aok_name (fun _ => rfl) (fun _ => rfl) (fun _ _ => rfl))
      (bd_cons (forC_fn (k := 64) (eok_name P.K rfl rfl) aok_name (bd_cons (sok_if (bok_cmp (eok_name P.K rfl rfl) (eok_attr (eok_name P.K rfl rfl) (p_getAttr P.cn rfl lko_whitespace)) p_in rfl) (bd_cons sok_continue
      bd_nil) bd_nil)
      (bd_cons (sok_if (bok_cmp (eok_name P.K rfl rfl) eok_str p_eq rfl) (bd_cons (forC_fn (k := 64) (eok_name P.K rfl rfl) aok_name (bd_cons (sok_if (bok_cmp (eok_name P.K rfl rfl) eok_str p_eq rfl) (bd_cons (sok_return (eok_name P.K rfl rfl))
      bd_nil) (bd_cons (sok_if (bok_cmp (eok_name P.K rfl rfl) eok_str p_eq rfl) (bd_cons (sok_assign (eok_meth (eok_name P.K rfl rfl) (met_fn P.cn rfl P.n_read lko_read_char) (run_read P (n + 1)).fok P.n_read.keep esok_nil kws_nil (fun _ => rfl) (fun _ => rfl) (fun _ => rfl) rfl) aok_name (fun _ => rfl) (fun _ => rfl) (fun _ _ => rfl))
      bd_nil) bd_nil)
      bd_nil))
      (bd_cons (sok_aug P.K rfl (eok_name P.K rfl rfl) p_iadd)
      bd_nil)) bd_nil rfl (run_read P n) P.n_read (Nat.le_refl _) (fun _ _ => rfl))
      bd_nil) (bd_cons (sok_if (bok_cmp (eok_name P.K rfl rfl) eok_str p_eq rfl) (bd_cons (sok_assign (eok_meth (eok_name P.K rfl rfl) (met_fn P.cn rfl P.n_read lko_read_char) (run_read P (n + 1)).fok P.n_read.keep esok_nil kws_nil (fun _ => rfl) (fun _ => rfl) (fun _ => rfl) rfl) aok_name (fun _ => rfl) (fun _ => rfl) (fun _ _ => rfl))
      bd_nil) bd_nil)
      (bd_cons (sok_aug P.K rfl (eok_name P.K rfl rfl) p_iadd)
      (bd_cons (forC_fn (k := 64) (eok_name P.K rfl rfl) aok_name (bd_cons (sok_if (bok_cmp (eok_name P.K rfl rfl) (eok_attr (eok_name P.K rfl rfl) (p_getAttr P.cn rfl lko_whitespace)) p_in rfl) (bd_cons (sok_return (eok_name P.K rfl rfl))
      bd_nil) (bd_cons (sok_if (bok_cmp (eok_name P.K rfl rfl) eok_str p_eq rfl) (bd_cons (sok_assign (eok_meth (eok_name P.K rfl rfl) (met_fn P.cn rfl P.n_read lko_read_char) (run_read P (n + 1)).fok P.n_read.keep esok_nil kws_nil (fun _ => rfl) (fun _ => rfl) (fun _ => rfl) rfl) aok_name (fun _ => rfl) (fun _ => rfl) (fun _ _ => rfl))
      bd_nil) bd_nil)
      bd_nil))
      (bd_cons (sok_aug P.K rfl (eok_name P.K rfl rfl) p_iadd)
      bd_nil)) bd_nil rfl (run_read P n) P.n_read (Nat.le_refl _) (fun _ _ => rfl))
      bd_nil))))
      bd_nil)) bd_nil rfl (run_read P n) P.n_read (Nat.le_refl _) (fun _ _ => rfl))
      (bd_cons (sok_return (eok_name P.K rfl rfl))
      bd_nil)))))⟩
noncomputable def F_get (P : Txt G mg mb mn mh script) (n : Nat) : FnT := fnF (mth 5 2).2.2 (bndP [Str.ofString "self"]) [] fun cs => (B_get P n cs).1
theorem run_get (P : Txt G mg mb mn mh script) (n : Nat) : FOkC G (n + 4) (.ref 73) (F_get P n) := run_p P.K P.n_get (bind1 fun _ _ _ _ _ _ _ _ => rfl) (fun cs => (B_get P n cs).2) rfl rfl rfl
example (P : Txt G mg mb mn mh script) : F_ninit P n [.tab 5 true, .ns [], .inst 83 1] [.obj 2, .c .none] [] = some (.c .none, [.tab 5 true, .ns [(Str.ofString "lineno", .int 1), (Str.ofString "instream", .c .none), (Str.ofString "whitespace", .str (Str.ofString "\n\t\r ")), (Str.ofString "pushback", .obj 3)], .inst 83 1, .list []]) := rfl
end
end Mine
end
section
open PySem PySem.W PyProof.Rows
set_option Elab.async false
set_option maxRecDepth 100000
set_option linter.all false
set_option autoImplicit false
namespace Mine
section
variable {G : Glob} {n : Nat} {fr : Fm}
noncomputable def foundP (code : Array Nat) (w : Str) : Option Bool := (srchP code 0 w).bind foundM
noncomputable def srchB (mg mb : Names) (fr : Fm) (g x : Str) (tab : Addr → Option (Array Nat)) (S : St) : Option (Bool × St) := thenO (nameF mg mb fr g S) fun a _ => thenO (nameF mg mb fr x S) fun b _ => a.ref?.bind fun p => b.str?.bind fun w => (tab p).bind fun code => (foundP code w).map (·, S)
theorem bok_srch1 {mg mb : Names} (K : GOk G mg mb) {g x : Str} {gp ap xp pos : Pos} {p : Addr} {code : Array Nat} (hP : PatAt G p code) (hgc : (g == ("__classdict__" : Str)) = false) (hgd : (g == ("__debug__" : Str)) = false) (hxc : (x == ("__classdict__" : Str)) = false) (hxd : (x == ("__debug__" : Str)) = false) (hl : (ap.endLine == pos.line) = true) :
    BOk G n fr (.Call (.Attribute (.Name g gp) "search" ap) [.Name x xp] [] pos) (srchB mg mb fr g x fun a => if a = p then some code else none) := by
  obtain ⟨c, po, co, fs, items, k, h1, h2, h3, h4, h5, h6, h7, h8, h9, h10⟩ := hP
  have hf := fok_srch (n := n) (tw := 0) (w := 0) h1 h2 h3 h5 h6 h7 h8 h9
  rw [h10] at hf
  refine BOk.gc (bok_val (eok_meth (eok_name K hgc hgd) (met_const h1 h3 h4 plain_pattern slot_srch ty_srch) hf keep_builtin (esok_cons (eok_name K hxc hxd) esok_nil (fun _ => rfl)) kws_nil (fun _ => rfl) (fun _ => rfl) (fun _ => rfl) hl) (fun _ _ => rfl)) fun S b S' h => ?_
  refine thenE h fun ag S₁ e1 h => thenE h fun ax S₂ e2 h => bindE h fun p' ep h => bindE h fun w ew h => bindE h fun code' ec h => mapE h fun b' e3 hz => ?_
  cases nameF_same e1
  cases nameF_same e2
  cases hz
  rw [AV.ref_of ep] at e1
  rw [AV.str_of ew] at e2
  refine iteE ec fun hp ec2 => bindE e3 fun m hm hf' => ?_
  subst hp
  cases ec2
  refine ⟨rfl, ?_⟩
  cases b with
  | true =>
    exact ⟨[.opq "re.Match"], D.val (S₁ := ⟨S.hp ++ [.opq "re.Match"], S.loc⟩) (D.meth e1 (beq_self_eq_true _) (D.cons e2 rfl) rfl (v := .obj S.hp.length) (H := S.hp ++ [.opq "re.Match"]) ((if_pos rfl).trans (bindI hm (bindI hf' rfl)))) (by
      have hl : (S.hp ++ [AO.opq "re.Match"])[S.hp.length]? = some (.opq "re.Match") := by rw [List.getElem?_append_right (Nat.le_refl _)]; simp
      have h1 : listAt (S.hp ++ [AO.opq "re.Match"]) S.hp.length = none := by unfold listAt; rw [hl]; rfl
      have h2 : ((S.hp ++ [AO.opq "re.Match"])[S.hp.length]?.bind AO.opq?) = some "re.Match" := by rw [hl]; rfl
      show Option.or (Option.bind (listAt (S.hp ++ [AO.opq "re.Match"]) S.hp.length) _) (Option.bind ((S.hp ++ [AO.opq "re.Match"])[S.hp.length]?.bind AO.opq?) _) = _
      rw [h1, h2]
      rfl)⟩
  | false =>
    refine ⟨[], ?_⟩
    rw [List.append_nil]
    exact D.val (D.meth e1 (beq_self_eq_true _) (D.cons e2 rfl) rfl (v := .c .none) (H := S.hp) ((if_pos rfl).trans (bindI hm (bindI hf' rfl)))) rfl
theorem bok_srch {mg mb : Names} (K : GOk G mg mb) {g x : Str} {gp ap xp pos : Pos} {tab : Addr → Option (Array Nat)} (hP : ∀ p code, tab p = some code → PatAt G p code) (hgc : (g == ("__classdict__" : Str)) = false) (hgd : (g == ("__debug__" : Str)) = false) (hxc : (x == ("__classdict__" : Str)) = false) (hxd : (x == ("__debug__" : Str)) = false) (hl : (ap.endLine == pos.line) = true) :
    BOk G n fr (.Call (.Attribute (.Name g gp) "search" ap) [.Name x xp] [] pos) (srchB mg mb fr g x tab) := by
  intro A X φ env s S b S' hR hE hW h
  refine thenE h fun ag S₁ e1 h => thenE h fun ax S₂ e2 h => bindE h fun p ep h => bindE h fun w ew h => bindE h fun code ec h => ?_
  exact bok_srch1 K (hP p code ec) hgc hgd hxc hxd hl A X φ env s S b S' hR hE hW (thenI e1 (thenI e2 (bindI ep (bindI ew (bindI (if_pos rfl) h)))))
end
end Mine
end
section
open PySem PySem.W PyProof.Rows
set_option Elab.async false
set_option maxRecDepth 100000
set_option linter.all false
set_option autoImplicit false
namespace Mine
noncomputable def asIs (F : St → Option (AV × St)) (S : St) : Option (AV × St) := thenO (F S) fun a S₁ => a.str?.bind fun x => if x.length ≤ 4096 then some (.str x, S₁) else none
noncomputable def joinF : List (St → Option (AV × St)) → Str → St → Option (AV × St)
  | [], acc, S => some (.str acc, S)
  | F :: r, acc, S => thenO (F S) fun a S₁ => a.str?.bind fun y => if (acc ++ y).length ≤ 4096 then joinF r (acc ++ y) S₁ else none
section
variable {G : Glob} {n : Nat} {fr : Fm}
theorem eok_fval {e : Expr} {pos : Pos} {F : St → Option (AV × St)} (h : EOk G n fr e F) : EOk G n fr (.FormattedValue e 115 none pos) (asIs F) := by
  intro A X φ env s S a S' hR hE hW q
  refine thenE q fun a' S₁ e1 q => bindE q fun x ex q => iteE q fun hz q => ?_
  cases q
  rw [AV.str_of ex] at e1
  show wpAny _ A (do let v ← eval e env; standAt pos; formatted pos (← holding [v] (converted 115 v)) none) _ _ _
  refine wp_then (h A X φ env s S _ S' hR hE hW e1) fun v s₁ ⟨φ₁, p₁, hv⟩ => ?_
  obtain ⟨t, rfl⟩ := hv.str_inv
  refine wpAny_bind (wpAny_standAt ?_)
  show wpAny _ _ (do let v' ← holding [.str x t] (habitSame "fstring-hands-on-the-str" (.str x t)); formatField v' Str.empty) _ _ _
  refine wpAny_bind (wpAny_holding (habitSame_str (fun t' tk => ?_) (le_size hz)))
  refine formatField_str (fun t2 tk2 => ?_) (le_size hz)
  exact .of p₁ ((HAfter.same (t := tk2) p₁.wd.hd (.str _ _)).lift p₁.wd)
inductive JsOk (G : Glob) (n : Nat) (fr : Fm) : List Expr → List (St → Option (AV × St)) → Prop
  | nil : JsOk G n fr [] []
  | cons {e : Expr} {es : List Expr} {F : St → Option (AV × St)} {Fs : List (St → Option (AV × St))} : EOk G n fr e F → JsOk G n fr es Fs → JsOk G n fr (e :: es) (F :: Fs)
theorem join_run {es : List Expr} {Fs : List (St → Option (AV × St))} (h : JsOk G n fr es Fs) : ∀ {A : Around} {X φ : List Addr} {env : Env} {s : Shared} {S : St} {acc : Str} {a : AV} {S' : St}, Room n A → EnvOk fr env φ → Wd G X φ env.locals S s → acc.length ≤ 4096 → joinF Fs acc S = some (a, S') →
    wpAny (model G.prog G.w) A (joinParts acc (evalEach es env)) (After G X φ env.locals s VRel a S') noE s := by
  induction h with
  | nil =>
    intro A X φ env s S acc a S' hR hE hW hz q
    cases q
    exact joinParts_nil ((HAfter.same (t := s.toks + 1) hW.hd (.str _ _)).lift hW) (le_size hz)
  | cons h1 h2 ih =>
    intro A X φ env s S acc a S' hR hE hW hz q
    refine thenE q fun a' S₁ e1 q => bindE q fun y ey q => iteE q fun hy q => ?_
    rw [AV.str_of ey] at e1
    refine joinParts_cons (wp_mono' (h1 A X φ env s S _ S₁ hR hE hW e1) fun v s₁ ⟨φ₁, p₁, hv⟩ => ?_)
    obtain ⟨t, rfl⟩ := hv.str_inv
    exact ⟨le_size hy, wp_mono' (ih hR (hE.pre p₁.nx.pre) p₁.wd hy q) fun _ _ z => .of p₁ z⟩
theorem eok_joined {e1 e2 : Expr} {es : List Expr} {pos : Pos} {Fs : List (St → Option (AV × St))} (h : JsOk G n fr (e1 :: e2 :: es) Fs) : EOk G n fr (.JoinedStr (e1 :: e2 :: es) pos) (joinF Fs Str.empty) := by
  intro A X φ env s S a S' hR hE hW q
  exact JoinedStr_many (join_run h hR hE hW (by decide) q)
end
end Mine
end
section
open PySem PySem.W PyProof.Rows
set_option Elab.async false
set_option maxRecDepth 100000
set_option linter.all false
set_option autoImplicit false
namespace Mine
section
variable {G : Glob} {n : Nat} {mg mb mn mh : Names} {script : List Int}
theorem eok_dbg {fr : Fm} {e : Expr} (h : ∃ pos, e = .Name (Str.ofString "__debug__") pos) : EOk G n fr e fun S => some (.c (.bool true), S) := by
  obtain ⟨pos, rfl⟩ := h; exact eok_debug
theorem bindok_to {fd : FuncData} {names : List Str} (h : ∀ (s : Shared) (vs : List Value), (∀ p ∈ G.K, s.heap.get? p.1 = some p.2) → vs.length = names.length → BindsTo s fd ⟨vs, []⟩ (names.zip vs)) : BindOk G fd (bndP names) := by
  intro A X φ s H args kw vs kvs ab H' hh hv hkn hkv e
  refine iteE e fun hk e => iteE e fun hl e => someE e fun e1 e2 => ?_
  subst e1 e2
  cases List.eq_nil_of_length_eq_zero hk
  cases no_kw hkn rfl
  have l := hv.length
  refine h s vs hh.kin (by omega) _ _ _ _ ⟨φ, .refl hh, ?_, ?_⟩
  · rw [zip_map1 (by omega), zip_map1 (by omega)]
  · rw [zip_map2 (by omega), zip_map2 (by omega)]; exact hv
noncomputable def two? {α : Type} (l : List α) : Option (α × α) := l.head?.bind fun a => (one? l.tail).map fun b => (a, b)
theorem two_of {α : Type} {l : List α} {p : α × α} (h : two? l = some p) : l = [p.1, p.2] := bindE h fun a ea h => mapE h fun b eb hz => by
  cases l with
  | nil => cases ea
  | cons x t => cases ea; cases hz; rw [show t = [b] from one_of eb]
noncomputable def three? {α : Type} (l : List α) : Option (α × α × α) := l.head?.bind fun a => (two? l.tail).map fun b => (a, b)
theorem three_of {α : Type} {l : List α} {p : α × α × α} (h : three? l = some p) : l = [p.1, p.2.1, p.2.2] := bindE h fun a ea h => mapE h fun b eb hz => by
  cases l with
  | nil => cases ea
  | cons x t => cases ea; cases hz; rw [show t = [b.1, b.2] from two_of eb]
theorem kv1 {h : Heap} {X φ : List Addr} {kvs : List (Str × Value)} {k : Str} {v : AV} (hn : kvs.map (·.1) = [k]) (hv : VRels h X φ [v] (kvs.map (·.2))) : ∃ r, kvs = [(k, r)] ∧ VRel h X φ v r := by
  obtain ⟨p, rfl⟩ := List.length_eq_one_iff.mp (show kvs.length = 1 by rw [← List.length_map (f := fun p : Str × Value => p.1), hn]; rfl)
  obtain ⟨x, r⟩ := p
  cases hn
  obtain ⟨_, e, hr⟩ := hv.inv1
  cases e
  exact ⟨_, rfl, hr⟩
noncomputable def bndInit : BndT := fun H args kw => if kw.length = 0 then (one? args).map fun a => ([(Str.ofString "self", a), (Str.ofString "headers", .c .none)], H) else none
noncomputable def bndConv : BndT := fun H args kw => (two? args).bind fun p => (one? kw).bind fun q => if q.1 = Str.ofString "name" then some ([(Str.ofString "self", p.1), (Str.ofString "value", p.2), (Str.ofString "name", q.2)], H) else none
noncomputable def bndAdd : BndT := fun H args kw => if kw.length = 0 then (three? args).map fun p => ([(Str.ofString "self", p.1), (Str.ofString "_name", p.2.1), (Str.ofString "_value", p.2.2), (Str.ofString "_params", .obj H.length)], H ++ [.dict []]) else none
noncomputable def tabR (p : Addr) : Option (Array Nat) := if p = 141 then some cTsp else if p = 146 then some cNam else if p = 151 then some cVal else none
theorem tab_ok (P : Txt G mg mb mn mh script) : ∀ p code, tabR p = some code → PatAt G p code := by
  intro p code h
  refine elseE h (fun e h => ?_) fun _ h => elseE h (fun e h => ?_) fun _ h => iteE h fun e h => ?_
  · cases h; rw [e]; exact P.tsp
  · cases h; rw [e]; exact P.nam
  · cases h; rw [e]; exact P.val
noncomputable abbrev Bd1 (G : Glob) (n : Nat) (d : Dfn) (cs : List (Str × Nat)) := { F : St → Option (AFl × St) // BdOk1 G n ⟨d.2.2, cs⟩ d.2.1 F true }
set_option maxHeartbeats 4000000 in
noncomputable def B_fmt (P : Txt G mg mb mn mh script) (n : Nat) (cs : List (Str × Nat)) : Bd1 G n (dfn 18) cs := ⟨_, bd1_cons (sok1_if (bok_and (bok_cmp (eok_name P.K rfl rfl) eok_none p_isnot rfl) (bok_cmp (eok_call P.K fok_len keep_builtin (esok_cons (eok_name P.K rfl rfl) esok_nil (fun _ => rfl)) kws_nil (fun _ => rfl) rfl rfl) eok_int p_gt rfl))
      (bd1_cons (sok1_if (bok_or (bok_val (eok_name P.K rfl rfl) (fun _ _ => rfl)) (bok_srch P.K (tab_ok P) rfl rfl rfl rfl rfl))
        (bd1_cons (sok1_assign (eok1_replace P.NB (eok1_replace P.NB (TOk.one (eok_name P.K rfl rfl)) (fun _ => rfl) (fun _ => rfl) rfl) (fun _ => rfl) (fun _ => rfl) rfl) aok_name (fun _ => rfl) (fun _ => rfl) (fun _ _ => rfl)) (BdOk.one (bd_cons (sok_return (eok_joined (JsOk.cons (eok_fval (eok_name P.K rfl rfl)) (JsOk.cons eok_str (JsOk.cons (eok_fval (eok_name P.K rfl rfl)) (JsOk.cons eok_str JsOk.nil))))))
      bd_nil) true))
        (BdOk.one (bd_cons (sok_return (eok_joined (JsOk.cons (eok_fval (eok_name P.K rfl rfl)) (JsOk.cons eok_str (JsOk.cons (eok_fval (eok_name P.K rfl rfl)) JsOk.nil)))))
      bd_nil) true)) (BdOk.one bd_nil true))
      (BdOk.one (bd_cons (sok_return (eok_name P.K rfl rfl))
      bd_nil) true)) (BdOk.one bd_nil true)⟩
noncomputable def fmtN : List Str := [Str.ofString "param", Str.ofString "value", Str.ofString "quote"]
noncomputable def F_fmt (P : Txt G mg mb mn mh script) (n : Nat) : FnT := fnF (dfn 18).2.2 (bndP fmtN) [] fun cs => (B_fmt P n cs).1
theorem run_fmt (P : Txt G mg mb mn mh script) (n : Nat) : FOkC G (n + 1) (.ref 159) (F_fmt P n) := by
  obtain ⟨T, t1, ⟨o, fd, hf⟩, oT, k, hT, hS⟩ := P.f_formatparam
  refine fokc_at (flag := true) (bnd := bndP fmtN) P.K hf (bindok_to fun s vs hK hl => ?_) (fun _ H args kw ab H' e => ?_) (fun cs => (B_fmt P n cs).2) rfl rfl rfl
  · obtain ⟨nm, ql, doc, pm, an, co, ct, ef⟩ := hf.fd_eq
    obtain ⟨v0, v1, v2, rfl⟩ := len3 hl
    rw [ef]
    exact BindsTo.of_defaults rfl (hK _ hT) hS rfl rfl
  · refine iteE e fun hk e => iteE e fun hl e => someE e fun e1 e2 => ?_
    obtain ⟨a, b, c, rfl⟩ := len3 hl
    subst e1
    exact ⟨_, _, _, rfl, rfl⟩
noncomputable def B_conv (P : Txt G mg mb mn mh script) (n : Nat) (cs : List (Str × Nat)) : Bd G (n + 0) (mth 19 1) cs := ⟨_, (bd_cons (sok_if (bok_cmp (eok_call P.K fok_type keep_type (esok_cons (eok_name P.K rfl rfl) esok_nil (fun _ => rfl)) kws_nil (fun _ => rfl) rfl rfl) (eok_name P.K rfl rfl) p_is rfl) (bd_cons (sok_assign (eok_ifexp (bok_val (eok_name P.K rfl rfl) (fun _ _ => rfl)) (eok_name P.K rfl rfl) (eok_name P.K rfl rfl)) aok_name (fun _ => rfl) (fun _ => rfl) (fun _ _ => rfl))
      (bd_cons (sok_if (bok_srch P.K (tab_ok P) rfl rfl rfl rfl rfl) (bd_cons tok_never
      bd_nil) bd_nil)
      (bd_cons (sok_return (eok_name P.K rfl rfl))
      bd_nil))) bd_nil)
      (bd_cons tok_never
      bd_nil))⟩
noncomputable def F_conv (P : Txt G mg mb mn mh script) (n : Nat) : FnT := fnF (mth 19 1).2.2 bndConv [] fun cs => (B_conv P n cs).1
theorem run_conv (P : Txt G mg mb mn mh script) (n : Nat) : FOkC G (n + 1) (.ref 181) (F_conv P n) := by
  obtain ⟨o, fd, hf⟩ := P.h_conv
  refine fokc_at (flag := false) (bnd := bndConv) P.K hf ?_ nofun (fun cs => BdOk.one (B_conv P n cs).2 _) rfl rfl rfl
  intro A X φ s H args kw vs kvs ab H' hh hv hkn hkv e
  refine bindE e fun p ep e => bindE e fun q eq e => iteE e fun hk e => someE e fun e1 e2 => ?_
  subst e1 e2
  cases two_of ep
  cases one_of eq
  obtain ⟨k, v⟩ := q
  cases hk
  obtain ⟨r, rfl, hr⟩ := kv1 hkn hkv
  obtain ⟨r1, r2, rfl, hv1, hv2⟩ := hv.inv2
  obtain ⟨nm, ql, doc, pm, an, co, ct, ef⟩ := hf.fd_eq
  rw [ef]
  refine wpAny_of_eq (a := [(Str.ofString "self", _), (Str.ofString "value", _), (Str.ofString "name", r)]) rfl ?_
  exact ⟨φ, .refl hh, rfl, .cons hv1 (.cons hv2 (.cons hr .nil))⟩
noncomputable def B_hinit (P : Txt G mg mb mn mh script) (n : Nat) (cs : List (Str × Nat)) : Bd G (n + 1) (mth 19 0) cs := ⟨_, (bd_cons (sok_assign (eok_ifexp (bok_cmp (eok_name P.K rfl rfl) eok_none p_isnot rfl) (eok_name P.K rfl rfl) (eok_list esok_nil)) aok_name (fun _ => rfl) (fun _ => rfl) (fun _ _ => rfl))
      (bd_cons (sok_if (bok_cmp (eok_call P.K fok_type keep_type (esok_cons (eok_name P.K rfl rfl) esok_nil (fun _ => rfl)) kws_nil (fun _ => rfl) rfl rfl) (eok_name P.K rfl rfl) p_isnot rfl) (bd_cons tok_never
      bd_nil) bd_nil)
      (bd_cons (sok_assign (eok_name P.K rfl rfl) (aok_attr P.ch P.chK rfl lko_headers (eok_name P.K rfl rfl)) (fun _ => rfl) (fun _ => rfl) (fun _ _ => rfl))
      (bd_cons (sok_if (bok_val eok_bool (fun _ _ => rfl)) (bd_cons (sok_for (k := 64) (itok_val (eok_name P.K rfl rfl)) (aok_tuple (AssOk.cons aok_name (AssOk.cons aok_name AssOk.nil)) (fun _ => rfl)) (bd_cons (sok_expr (eok_meth (eok_name P.K rfl rfl) (met_fn P.ch rfl P.h_conv lko_convert_string_type) (run_conv P n).fok P.h_conv.keep (esok_cons (eok_name P.K rfl rfl) esok_nil (fun _ => rfl)) (kws_cons eok_bool kws_nil) (fun _ => rfl) (fun _ => rfl) (fun _ => rfl) rfl) (fun env h => intr h) (fun _ => rfl))
      (bd_cons (sok_expr (eok_meth (eok_name P.K rfl rfl) (met_fn P.ch rfl P.h_conv lko_convert_string_type) (run_conv P n).fok P.h_conv.keep (esok_cons (eok_name P.K rfl rfl) esok_nil (fun _ => rfl)) (kws_cons eok_bool kws_nil) (fun _ => rfl) (fun _ => rfl) (fun _ => rfl) rfl) (fun env h => intr h) (fun _ => rfl))
      bd_nil)) bd_nil (fun _ _ => rfl))
      bd_nil) bd_nil)
      bd_nil))))⟩
noncomputable def F_hinit (P : Txt G mg mb mn mh script) (n : Nat) : FnT := fnF (mth 19 0).2.2 bndInit [] fun cs => (B_hinit P n cs).1
theorem run_hinit (P : Txt G mg mb mn mh script) (n : Nat) : FOkC G (n + 2) (.ref 174) (F_hinit P n) := by
  obtain ⟨T, ⟨o, fd, hf⟩, oT, k, hT, hS⟩ := P.h_init
  refine fokc_at (flag := false) (bnd := bndInit) P.K hf ?_ nofun (fun cs => BdOk.one (B_hinit P n cs).2 _) rfl rfl rfl
  intro A X φ s H args kw vs kvs ab H' hh hv hkn hkv e
  refine iteE e fun hk e => mapE e fun a ea e => ?_
  cases e
  cases List.eq_nil_of_length_eq_zero hk
  cases no_kw hkn rfl
  cases one_of ea
  obtain ⟨r, rfl, hv1⟩ := hv.inv1
  obtain ⟨nm, ql, doc, pm, an, co, ct, ef⟩ := hf.fd_eq
  rw [ef]
  refine BindsTo.of_defaults (binds := [(Str.ofString "self", _), (Str.ofString "headers", .none)]) rfl (hh.kin _ hT) hS rfl rfl _ _ _ _ ?_
  exact ⟨φ, .refl hh, rfl, .cons hv1 (.cons (.c _) .nil)⟩
noncomputable def B_hget (P : Txt G mg mb mn mh script) (n : Nat) (cs : List (Str × Nat)) : Bd G (n + 1) (mth 19 8) cs := ⟨_, (bd_cons (sok_assign (eok_meth (eok_name P.K rfl rfl) (met_fn P.ch rfl P.h_conv lko_convert_string_type) (run_conv P n).fok P.h_conv.keep (esok_cons (eok_meth (eok_name P.K rfl rfl) (met_str PySem.F.slot_str_lower PySem.F.type_str_lower) fok_lower keep_builtin esok_nil kws_nil (fun _ => rfl) (fun _ => rfl) (fun _ => rfl) rfl) esok_nil (fun _ => rfl)) (kws_cons eok_bool kws_nil) (fun _ => rfl) (fun _ => rfl) (fun _ => rfl) rfl) aok_name (fun _ => rfl) (fun _ => rfl) (fun _ _ => rfl))
      (bd_cons (sok_for (k := 64) (itok_val (eok_attr (eok_name P.K rfl rfl) (p_getAttr P.ch rfl lko_headers))) (aok_tuple (AssOk.cons aok_name (AssOk.cons aok_name AssOk.nil)) (fun _ => rfl)) (bd_cons (sok_if (bok_cmp (eok_meth (eok_name P.K rfl rfl) (met_str PySem.F.slot_str_lower PySem.F.type_str_lower) fok_lower keep_builtin esok_nil kws_nil (fun _ => rfl) (fun _ => rfl) (fun _ => rfl) rfl) (eok_name P.K rfl rfl) p_eq rfl) (bd_cons (sok_return (eok_name P.K rfl rfl))
      bd_nil) bd_nil)
      bd_nil) bd_nil (fun _ _ => rfl))
      (bd_cons (sok_return (eok_name P.K rfl rfl))
      bd_nil)))⟩
noncomputable def F_hget (P : Txt G mg mb mn mh script) (n : Nat) : FnT := fnF (mth 19 8).2.2 (bndP [Str.ofString "self", Str.ofString "name", Str.ofString "default"]) [] fun cs => (B_hget P n cs).1
theorem run_hget (P : Txt G mg mb mn mh script) (n : Nat) : FOkC G (n + 2) (.ref 229) (F_hget P n) := by
  obtain ⟨T, ⟨o, fd, hf⟩, oT, k, hT, hS⟩ := P.h_get
  refine fokc_at (flag := false) (bnd := (bndP [Str.ofString "self", Str.ofString "name", Str.ofString "default"])) P.K hf ?_ nofun (fun cs => BdOk.one (B_hget P n cs).2 _) rfl rfl rfl
  refine bindok_to fun s vs hK hl => ?_
  obtain ⟨nm, ql, doc, pm, an, co, ct, ef⟩ := hf.fd_eq
  obtain ⟨v0, v1, v2, rfl⟩ := len3 hl
  rw [ef]
  exact BindsTo.of_defaults rfl (hK _ hT) hS rfl rfl
noncomputable def B_hadd (P : Txt G mg mb mn mh script) (n : Nat) (cs : List (Str × Nat)) : Bd G (n + 1) (mth 19 16) cs := ⟨_, (bd_cons (sok_assign (eok_list esok_nil) aok_name (fun _ => rfl) (fun _ => rfl) (fun _ _ => rfl))
      (bd_cons (sok_if (bok_cmp (eok_name P.K rfl rfl) eok_none p_isnot rfl) (bd_cons (sok_assign (eok_meth (eok_name P.K rfl rfl) (met_fn P.ch rfl P.h_conv lko_convert_string_type) (run_conv P n).fok P.h_conv.keep (esok_cons (eok_name P.K rfl rfl) esok_nil (fun _ => rfl)) (kws_cons eok_bool kws_nil) (fun _ => rfl) (fun _ => rfl) (fun _ => rfl) rfl) aok_name (fun _ => rfl) (fun _ => rfl) (fun _ _ => rfl))
      (bd_cons (sok_expr (eok_meth (eok_name P.K rfl rfl) (met_list PySem.F.slot_list_append PySem.F.type_list_append) fok_append keep_builtin (esok_cons (eok_name P.K rfl rfl) esok_nil (fun _ => rfl)) kws_nil (fun _ => rfl) (fun _ => rfl) (fun _ => rfl) rfl) (fun env h => intr h) (fun _ => rfl))
      bd_nil)) bd_nil)
      (bd_cons (sok_forItems P.sm (eok_name P.K rfl rfl) bd_nil (fun _ => rfl) rfl (fun _ _ => rfl))
      (bd_cons (sok_expr (eok_meth (eok_attr (eok_name P.K rfl rfl) (p_getAttr P.ch rfl lko_headers)) (met_list PySem.F.slot_list_append PySem.F.type_list_append) fok_append keep_builtin (esok_cons (eok_tuple (esok_cons (eok_meth (eok_name P.K rfl rfl) (met_fn P.ch rfl P.h_conv lko_convert_string_type) (run_conv P n).fok P.h_conv.keep (esok_cons (eok_name P.K rfl rfl) esok_nil (fun _ => rfl)) (kws_cons eok_bool kws_nil) (fun _ => rfl) (fun _ => rfl) (fun _ => rfl) rfl) (esok_cons (eok_meth eok_str (met_str PySem.F.slot_str_join PySem.F.type_str_join) fok_join keep_builtin (esok_cons (eok_name P.K rfl rfl) esok_nil (fun _ => rfl)) kws_nil (fun _ => rfl) (fun _ => rfl) (fun _ => rfl) rfl) esok_nil (fun _ => rfl)) (fun _ => rfl))) esok_nil (fun _ => rfl)) kws_nil (fun _ => rfl) (fun _ => rfl) (fun _ => rfl) rfl) (fun env h => intr h) (fun _ => rfl))
      bd_nil))))⟩
noncomputable def F_hadd (P : Txt G mg mb mn mh script) (n : Nat) : FnT := fnF (mth 19 16).2.2 bndAdd [] fun cs => (B_hadd P n cs).1
theorem run_hadd (P : Txt G mg mb mn mh script) (n : Nat) : FOkC G (n + 2) (.ref 279) (F_hadd P n) := by
  obtain ⟨o, fd, hf⟩ := P.h_add
  refine fokc_at (flag := false) (bnd := bndAdd) P.K hf ?_ nofun (fun cs => BdOk.one (B_hadd P n cs).2 _) rfl rfl rfl
  intro A X φ s H args kw vs kvs ab H' hh hv hkn hkv e
  refine iteE e fun hk e => mapE e fun p ep e => ?_
  cases e
  cases List.eq_nil_of_length_eq_zero hk
  cases no_kw hkn rfl
  cases three_of ep
  obtain ⟨r1, rs, rfl, hv1, hv⟩ := hv.cons_inv
  obtain ⟨r2, r3, rfl, hv2, hv3⟩ := hv.inv2
  obtain ⟨nm, ql, doc, pm, an, co, ct, ef⟩ := hf.fd_eq
  rw [ef]
  show wpAny _ _ (alloc { cls := .type "dict", data := .dict #[] } >>= fun d => pure [(Str.ofString "self", _), (Str.ofString "_name", _), (Str.ofString "_value", _), (Str.ofString "_params", Value.ref d)]) _ _ _
  refine wpAny_bind (wpAny_alloc (wpAny_pure ?_))
  obtain ⟨φ₁, p₁, e₁⟩ := HAfter.new (rel := fun _ _ φ (_ : Unit) (_ : Unit) => φ[H.length]? = some s.heap.objs.size) (a := ()) (r := ()) (t := s.toks) (o := { cls := .type "dict", data := .dict #[] }) (ao := .dict []) hh
    (fun tk => by
      obtain ⟨o, es, ep, h1, h2, h3, h4, h5, h6⟩ := Heap.DictOf.new (knd := PySem.strKind G.prog G.w) s.heap
      exact ⟨o, es, ep, [], h1, h2, h3, h4, h5, h6, rfl, .nil⟩) (fun e _ => e)
  exact ⟨φ₁, p₁, rfl, .cons (p₁.val hh hv1) (.cons (p₁.val hh hv2) (.cons (p₁.val hh hv3) (.cons (.obj e₁) .nil)))⟩
end
end Mine
end
section
open PySem PySem.W PyProof.Rows
set_option Elab.async false
set_option maxRecDepth 100000
set_option linter.all false
set_option autoImplicit false
namespace Mine
theorem fmt_keep {G : Glob} {mg mb mn mh : Names} {script : List Int} (P : Txt G mg mb mn mh script) : KeepOk G (.ref 159) := let ⟨_, _, ⟨_, _, k⟩, _⟩ := P.f_formatparam; k.keep
section
variable {G : Glob} {n : Nat} {mg mb mn mh : Names} {script : List Int}
noncomputable def B_numbers (P : Txt G mg mb mn mh script) (n : Nat) (cs : List (Str × Nat)) : Bd G (n + 1) (dfn 22) cs := ⟨_, (bd_cons (sok_comp (k := 64) (cs := []) ⟨rfl, rfl, by decide, by decide⟩ (itok_val (eok_slice P.kl (eok_name P.K rfl rfl) part_none (part_some eok_int) part_none)) aok_name (eok_bin (eok_call P.K fok_int keep_type (esok_cons (eok_name P.K rfl rfl) esok_nil (fun _ => rfl)) kws_nil (fun _ => rfl) rfl rfl) (eok_bin eok_int eok_int p_pow) p_fmt) (fun _ _ => rfl) rfl rfl rfl rfl)
      (bd_cons (sok_return (eok_bin (eok_name P.K rfl rfl) (eok_slice P.kl (eok_list (esok_cons eok_int (esok_cons eok_int (esok_cons eok_int (esok_cons eok_int (esok_cons eok_int (esok_cons eok_int esok_nil (fun _ => rfl)) (fun _ => rfl)) (fun _ => rfl)) (fun _ => rfl)) (fun _ => rfl)) (fun _ => rfl))) (part_some (eok_call P.K fok_len keep_builtin (esok_cons (eok_name P.K rfl rfl) esok_nil (fun _ => rfl)) kws_nil (fun _ => rfl) rfl rfl)) part_none part_none) p_add))
      bd_nil))⟩
noncomputable def F_numbers (P : Txt G mg mb mn mh script) (n : Nat) : FnT := fnF (dfn 22).2.2 (bndP [Str.ofString "script"]) [] fun cs => (B_numbers P n cs).1
theorem run_numbers (P : Txt G mg mb mn mh script) (n : Nat) : FOkC G (n + 2) (.ref 298) (F_numbers P n) := run_p P.K P.f_numbers (bind1 fun _ _ _ _ _ _ _ _ => rfl) (fun cs => (B_numbers P n cs).2) rfl rfl rfl
set_option maxHeartbeats 4000000 in
noncomputable def B_text (P : Txt G mg mb mn mh script) (n : Nat) (cs : List (Str × Nat)) : Bd G (n + 1) (dfn 24) cs := ⟨_, (bd_cons (sok_swapped (names := [Str.ofString "signs", Str.ofString "rows", Str.ofString "awaited"]) (eok_tuple (esok_cons (eok_call P.K (run_signs P).fok P.f_signs.keep esok_nil kws_nil (fun _ => rfl) rfl rfl) (esok_cons (eok_list esok_nil) (esok_cons (eok_list esok_nil) esok_nil (fun _ => rfl)) (fun _ => rfl)) (fun _ => rfl))) (fun _ => rfl) (fun env h => by obtain ⟨⟩ := env; simp only at h; subst h; kernel_rfl))
      (bd_cons (sok_for (k := 64) (itok_call P.K (esok_cons eok_str (esok_cons (eok_name P.K rfl rfl) esok_nil (fun _ => rfl)) (fun _ => rfl)) (fun _ => rfl) rfl rfl rfl rfl (fun A X φ L S s l vs src hR hW hv e => call_zip hW hv e)) (aok_tuple (AssOk.cons aok_name (AssOk.cons aok_name AssOk.nil)) (fun _ => rfl)) (bd_cons (sok_assign (eok_bin (eok_item (eok_name P.K rfl rfl) (eok_bin (eok_bin (eok_name P.K rfl rfl) eok_int p_fmt) eok_int p_fdiv)) (eok_item (eok_name P.K rfl rfl) (eok_bin (eok_name P.K rfl rfl) eok_int p_fmt)) p_add) aok_name (fun _ => rfl) (fun _ => rfl) (fun _ _ => rfl))
      (bd_cons (sok_expr (eok_meth (eok_name P.K rfl rfl) (met_list PySem.F.slot_list_append PySem.F.type_list_append) fok_append keep_builtin (esok_cons (eok_bin (eok_call P.K (run_fmt P n).fok (fmt_keep P) (esok_cons (eok_name P.K rfl rfl) (esok_cons (eok_name P.K rfl rfl) (esok_cons (eok_bin (eok_bin (eok_name P.K rfl rfl) eok_int p_fdiv) eok_int p_fmt) esok_nil (fun _ => rfl)) (fun _ => rfl)) (fun _ => rfl)) kws_nil (fun _ => rfl) rfl rfl) eok_str p_add) esok_nil (fun _ => rfl)) kws_nil (fun _ => rfl) (fun _ => rfl) (fun _ => rfl) rfl) (fun env h => intr h) (fun _ => rfl))
      (bd_cons (sok_expr (eok_meth (eok_name P.K rfl rfl) (met_list PySem.F.slot_list_extend PySem.F.type_list_extend) fok_extend keep_builtin (esok_cons (eok_list (esok_cons (eok_name P.K rfl rfl) (esok_cons (eok_name P.K rfl rfl) esok_nil (fun _ => rfl)) (fun _ => rfl))) esok_nil (fun _ => rfl)) kws_nil (fun _ => rfl) (fun _ => rfl) (fun _ => rfl) rfl) (fun env h => intr h) (fun _ => rfl))
      bd_nil))) bd_nil (fun _ _ => rfl))
      (bd_cons (sok_return (eok_tuple (esok_cons (eok_bin (eok_meth eok_str (met_str PySem.F.slot_str_join PySem.F.type_str_join) fok_join keep_builtin (esok_cons (eok_name P.K rfl rfl) esok_nil (fun _ => rfl)) kws_nil (fun _ => rfl) (fun _ => rfl) (fun _ => rfl) rfl) eok_str p_add) (esok_cons (eok_bin (eok_name P.K rfl rfl) (eok_list (esok_cons eok_str (esok_cons eok_str esok_nil (fun _ => rfl)) (fun _ => rfl))) p_add) esok_nil (fun _ => rfl)) (fun _ => rfl))))
      bd_nil)))⟩
noncomputable def F_text (P : Txt G mg mb mn mh script) (n : Nat) : FnT := fnF (dfn 24).2.2 (bndP [Str.ofString "numbers"]) [] fun cs => (B_text P n cs).1
theorem run_text (P : Txt G mg mb mn mh script) (n : Nat) : FOkC G (n + 2) (.ref 312) (F_text P n) := run_p P.K P.f_text (bind1 fun _ _ _ _ _ _ _ _ => rfl) (fun cs => (B_text P n cs).2) rfl rfl rfl
noncomputable def B_order (P : Txt G mg mb mn mh script) (n : Nat) (cs : List (Str × Nat)) : Bd G (n + 0) (dfn 29) cs := ⟨_, (bd_cons (sok_assign (eok_tuple (esok_cons eok_int (esok_cons eok_int esok_nil (fun _ => rfl)) (fun _ => rfl))) (aok_tuple (AssOk.cons aok_name (AssOk.cons aok_name AssOk.nil)) (fun _ => rfl)) (fun _ => rfl) (fun _ => rfl) (fun env h => by obtain ⟨⟩ := env; simp only at h; subst h; rfl))
      (bd_cons (sok_for (k := 64) (itok_call P.K (esok_cons eok_int esok_nil (fun _ => rfl)) (fun _ => rfl) rfl rfl rfl rfl (fun A X φ L S s l vs src hR hW hv e => call_range hW hv e)) aok_name (bd_cons (sok_for (k := 64) (itok_call P.K (esok_cons (eok_name P.K rfl rfl) esok_nil (fun _ => rfl)) (fun _ => rfl) rfl rfl rfl rfl (fun A X φ L S s l vs src hR hW hv e => call_range hW hv e)) aok_name (bd_cons (sok_aug P.K rfl (eok_bin (eok_item (eok_name P.K rfl rfl) (eok_name P.K rfl rfl)) (eok_item (eok_name P.K rfl rfl) (eok_name P.K rfl rfl)) p_sub) p_imul)
      (bd_cons (sok_aug P.K rfl (eok_cmp (eok_item (eok_name P.K rfl rfl) (eok_name P.K rfl rfl)) (eok_item (eok_name P.K rfl rfl) (eok_name P.K rfl rfl)) p_gt rfl) p_iadd)
      bd_nil)) bd_nil (fun _ _ => rfl))
      bd_nil) bd_nil (fun _ _ => rfl))
      (bd_cons (sok_return (eok_tuple (esok_cons (eok_ifexp (bok_cmp (eok_name P.K rfl rfl) eok_int p_eq rfl) eok_int (eok_bin eok_int (eok_bin eok_int (eok_bin (eok_name P.K rfl rfl) eok_int p_fmt) p_mul) p_sub)) (esok_cons (eok_name P.K rfl rfl) esok_nil (fun _ => rfl)) (fun _ => rfl))))
      bd_nil)))⟩
noncomputable def F_order (P : Txt G mg mb mn mh script) (n : Nat) : FnT := fnF (dfn 29).2.2 (bndP [Str.ofString "worths"]) [] fun cs => (B_order P n cs).1
theorem run_order (P : Txt G mg mb mn mh script) (n : Nat) : FOkC G (n + 1) (.ref 343) (F_order P n) := run_p P.K P.f_order (bind1 fun _ _ _ _ _ _ _ _ => rfl) (fun cs => (B_order P n cs).2) rfl rfl rfl
noncomputable def B_sums (P : Txt G mg mb mn mh script) (n : Nat) (cs : List (Str × Nat)) : Bd G (n + 1) (dfn 28) cs := ⟨_, (bd_cons (sok_assign (eok_tuple (esok_cons eok_int (esok_cons eok_int (esok_cons eok_int esok_nil (fun _ => rfl)) (fun _ => rfl)) (fun _ => rfl))) (aok_tuple (AssOk.cons aok_name (AssOk.cons aok_name (AssOk.cons aok_name AssOk.nil))) (fun _ => rfl)) (fun _ => rfl) (fun _ => rfl) (fun env h => by obtain ⟨⟩ := env; simp only at h; subst h; rfl))
      (bd_cons (sok_for (k := 64) (itok_call P.K (esok_cons eok_int esok_nil (fun _ => rfl)) (fun _ => rfl) rfl rfl rfl rfl (fun A X φ L S s l vs src hR hW hv e => call_range hW hv e)) aok_name (bd_cons (sok_for (k := 64) (itok_call P.K (esok_cons (eok_name P.K rfl rfl) esok_nil (fun _ => rfl)) (fun _ => rfl) rfl rfl rfl rfl (fun A X φ L S s l vs src hR hW hv e => call_range hW hv e)) aok_name (bd_cons (sok_assign (eok_call P.K (run_mul P).fok P.f_mul.keep (esok_cons (eok_name P.K rfl rfl) (esok_cons (eok_item (eok_item (eok_name P.K rfl rfl) (eok_bin (eok_item eok_str (eok_name P.K rfl rfl)) (eok_item eok_str (eok_name P.K rfl rfl)) p_add)) eok_int) esok_nil (fun _ => rfl)) (fun _ => rfl)) kws_nil (fun _ => rfl) rfl rfl) aok_name (fun _ => rfl) (fun _ => rfl) (fun _ _ => rfl))
      bd_nil) bd_nil (fun _ _ => rfl))
      bd_nil) bd_nil (fun _ _ => rfl))
      (bd_cons (sok_for (k := 64) (itok_val (eok_name P.K rfl rfl)) aok_name (bd_cons (sok_assign (eok_tuple (esok_cons eok_int (esok_cons eok_int (esok_cons eok_int esok_nil (fun _ => rfl)) (fun _ => rfl)) (fun _ => rfl))) (aok_tuple (AssOk.cons aok_name (AssOk.cons aok_name (AssOk.cons aok_name AssOk.nil))) (fun _ => rfl)) (fun _ => rfl) (fun _ => rfl) (fun env h => by obtain ⟨⟩ := env; simp only at h; subst h; rfl))
      (bd_cons (sok_for (k := 64) (itok_val (eok_tuple (esok_cons eok_int (esok_cons eok_int (esok_cons eok_int esok_nil (fun _ => rfl)) (fun _ => rfl)) (fun _ => rfl)))) aok_name (bd_cons (sok_assign (eok_item (eok_name P.K rfl rfl) (eok_slice P.kl (eok_name P.K rfl rfl) (part_some (eok_name P.K rfl rfl)) (part_some (eok_bin (eok_name P.K rfl rfl) eok_int p_add)) part_none)) aok_name (fun _ => rfl) (fun _ => rfl) (fun _ _ => rfl))
      (bd_cons (sok_swapped (names := [Str.ofString "sign", Str.ofString "less", Str.ofString "both"]) (eok_tuple (esok_cons (eok_call P.K (run_mul P).fok P.f_mul.keep (esok_cons (eok_name P.K rfl rfl) (esok_cons (eok_item (eok_name P.K rfl rfl) eok_int) esok_nil (fun _ => rfl)) (fun _ => rfl)) kws_nil (fun _ => rfl) rfl rfl) (esok_cons (eok_call P.K (run_mul P).fok P.f_mul.keep (esok_cons (eok_name P.K rfl rfl) (esok_cons (eok_item (eok_name P.K rfl rfl) eok_int) esok_nil (fun _ => rfl)) (fun _ => rfl)) kws_nil (fun _ => rfl) rfl rfl) (esok_cons (eok_call P.K (run_mul P).fok P.f_mul.keep (esok_cons (eok_name P.K rfl rfl) (esok_cons (eok_item (eok_name P.K rfl rfl) eok_int) esok_nil (fun _ => rfl)) (fun _ => rfl)) kws_nil (fun _ => rfl) rfl rfl) esok_nil (fun _ => rfl)) (fun _ => rfl)) (fun _ => rfl))) (fun _ => rfl) (fun env h => by obtain ⟨⟩ := env; simp only at h; subst h; kernel_rfl))
      bd_nil)) bd_nil (fun _ _ => rfl))
      (bd_cons (sok_swapped (names := [Str.ofString "signs", Str.ofString "total"]) (eok_tuple (esok_cons (eok_call P.K (run_add P).fok P.f_add.keep (esok_cons (eok_name P.K rfl rfl) (esok_cons (eok_name P.K rfl rfl) esok_nil (fun _ => rfl)) (fun _ => rfl)) kws_nil (fun _ => rfl) rfl rfl) (esok_cons (eok_call P.K (run_add P).fok P.f_add.keep (esok_cons (eok_name P.K rfl rfl) (esok_cons (eok_call P.K (run_mul P).fok P.f_mul.keep (esok_cons (eok_name P.K rfl rfl) (esok_cons (eok_call P.K (run_floordiv P).fok P.f_floordiv.keep (esok_cons (eok_name P.K rfl rfl) (esok_cons (eok_name P.K rfl rfl) esok_nil (fun _ => rfl)) (fun _ => rfl)) kws_nil (fun _ => rfl) rfl rfl) esok_nil (fun _ => rfl)) (fun _ => rfl)) kws_nil (fun _ => rfl) rfl rfl) esok_nil (fun _ => rfl)) (fun _ => rfl)) kws_nil (fun _ => rfl) rfl rfl) esok_nil (fun _ => rfl)) (fun _ => rfl))) (fun _ => rfl) (fun env h => by obtain ⟨⟩ := env; simp only at h; subst h; kernel_rfl))
      bd_nil))) bd_nil (fun _ _ => rfl))
      (bd_cons (sok_return (eok_tuple (esok_cons (eok_name P.K rfl rfl) (esok_cons (eok_name P.K rfl rfl) esok_nil (fun _ => rfl)) (fun _ => rfl))))
      bd_nil))))⟩
noncomputable def F_sums (P : Txt G mg mb mn mh script) (n : Nat) : FnT := fnF (dfn 28).2.2 (bndP [Str.ofString "rows", Str.ofString "pairs"]) [] fun cs => (B_sums P n cs).1
theorem run_sums (P : Txt G mg mb mn mh script) (n : Nat) : FOkC G (n + 2) (.ref 336) (F_sums P n) := run_p P.K P.f_sums (bind2 fun _ _ _ _ _ _ _ _ _ => rfl) (fun cs => (B_sums P n cs).2) rfl rfl rfl
end
end Mine
end
section
open PySem PySem.W PyProof.Rows
set_option Elab.async false
set_option maxRecDepth 100000
set_option linter.all false
set_option autoImplicit false
namespace Mine
theorem keep_cls {G : Glob} {C fI : Addr} (K : MakeOk G C fI) : KeepOk G (.ref C) := fun A X φ s H Q hh h => by
  have Y := K.makes s.heap hh.kin
  obtain ⟨oc, od, cd, sl, hC, _⟩ := Y.obj
  unfold keeperOf
  refine wpAny_bind (wpAny_load hC ?_)
  refine wpAny_bind (Y.call A _ _ s (fun b o e => e) ?_)
  exact wpAny_pure (h _ (.inr (.inl rfl)))
theorem clos1 {fr : Fm} {x : Str} {i : Nat} {names : List (Str × NameKind)} (hi : fr.cells.lookup x = some i) (h : closA fr names [] = (fr.cells.lookup x).bind fun i => some [(x, i)]) : closA fr names [] = some [(x, i)] := by rw [h, hi]; rfl
section
variable {G : Glob} {n : Nat} {mg mb mn mh : Names} {script : List Int}
theorem met_get (P : Txt G mg mb mn mh script) : MetOk G (Str.ofString "get") (.ref 229) (isInst 282 (Str.ofString "get")) := let ⟨_, h, _⟩ := P.h_get; met_fn P.ch rfl h lko_get
theorem keep_get (P : Txt G mg mb mn mh script) : KeepOk G (.ref 229) := let ⟨_, h, _⟩ := P.h_get; h.keep
theorem hget_fn (P : Txt G mg mb mn mh script) : ∃ T, FnK G 229 (mth 19 8) (.ref T) .none := let ⟨T, h, _⟩ := P.h_get; ⟨T, h⟩
set_option maxHeartbeats 4000000 in
noncomputable def B_table (P : Txt G mg mb mn mh script) (n : Nat) (cs : List (Str × Nat)) : Bd G (n + 3) (dfn 25) cs := ⟨_, bd_cells (x := Str.ofString "table") fun i hi => (bd_cons (sok_assign (eok_call P.K (fok_class P.chM (run_hinit P n)) (keep_cls P.chM) esok_nil kws_nil (fun _ => rfl) rfl rfl) aok_name (fun _ => rfl) (fun _ => rfl) (fun _ _ => rfl))
      (bd_cons (sok_for (k := 64) (itok_call P.K (esok_cons (eok_slice P.kl (eok_name P.K rfl rfl) part_none (part_some eok_int) (part_some eok_int)) (esok_cons (eok_slice P.kl (eok_name P.K rfl rfl) (part_some eok_int) (part_some eok_int) (part_some eok_int)) esok_nil (fun _ => rfl)) (fun _ => rfl)) (fun _ => rfl) rfl rfl rfl rfl (fun A X φ L S s l vs src hR hW hv e => call_zip hW hv e)) (aok_tuple (AssOk.cons aok_name (AssOk.cons aok_name AssOk.nil)) (fun _ => rfl)) (bd_cons (sok_expr (eok_meth (eok_name P.K rfl rfl) (met_fn P.ch rfl P.h_add lko_add_header) (run_hadd P (n + 1)).fok P.h_add.keep (esok_cons (eok_name P.K rfl rfl) (esok_cons (eok_name P.K rfl rfl) esok_nil (fun _ => rfl)) (fun _ => rfl)) kws_nil (fun _ => rfl) (fun _ => rfl) (fun _ => rfl) rfl) (fun env h => intr h) (fun _ => rfl))
      bd_nil) bd_nil (fun _ _ => rfl))
      (bd_cons (sok_return (eok_comp (k := 64) (cs := [(_, i)]) ⟨clos1 hi rfl, rfl, by decide, by decide⟩ (itok_val eok_str) aok_name (eok_meth (eok_name P.K rfl rfl) (met_get P) (run_hget P (n + 1)).fok (keep_get P) (esok_cons (eok_name P.K rfl rfl) (esok_cons eok_str esok_nil (fun _ => rfl)) (fun _ => rfl)) kws_nil (fun _ => rfl) (fun _ => rfl) (fun _ => rfl) rfl) (fun _ _ => rfl)))
      bd_nil)))⟩
noncomputable def F_table (P : Txt G mg mb mn mh script) (n : Nat) : FnT := fnF (dfn 25).2.2 (bndP [Str.ofString "words"]) [] fun cs => (B_table P n cs).1
theorem run_table (P : Txt G mg mb mn mh script) (n : Nat) : FOkC G (n + 4) (.ref 317) (F_table P n) := run_p P.K P.f_table (bind1 fun _ _ _ _ _ _ _ _ => rfl) (fun cs => (B_table P n cs).2) rfl rfl rfl
set_option maxHeartbeats 4000000 in
noncomputable def B_pairs (P : Txt G mg mb mn mh script) (n : Nat) (cs : List (Str × Nat)) : Bd G (n + 1) (dfn 26) cs := ⟨_, bd_cells (x := Str.ofString "signs") fun i hi => (bd_cons (sok_assign (eok_tuple (esok_cons (eok_call P.K (run_signs P).fok P.f_signs.keep esok_nil kws_nil (fun _ => rfl) rfl rfl) (esok_cons eok_dict0 esok_nil (fun _ => rfl)) (fun _ => rfl))) (aok_tuple (AssOk.cons aok_name (AssOk.cons aok_name AssOk.nil)) (fun _ => rfl)) (fun _ => rfl) (fun _ => rfl) (fun env h => by obtain ⟨⟩ := env; simp only at h; subst h; rfl))
      (bd_cons (sok_comp (k := 64) (cs := [(_, i)]) ⟨clos1 hi rfl, rfl, by decide, by decide⟩ (itok_val (eok_name P.K rfl rfl)) aok_name (eok_call P.K (run_add P).fok P.f_add.keep (esok_cons eok_int (esok_cons (eok_call P.K (run_add P).fok P.f_add.keep (esok_cons (eok_call P.K (run_mul P).fok P.f_mul.keep (esok_cons eok_int (esok_cons (eok_idx P.K (run_indexOf P) P.f_indexOf.keep rfl rfl (by decide) rfl rfl rfl rfl rfl rfl) esok_nil (fun _ => rfl)) (fun _ => rfl)) kws_nil (fun _ => rfl) rfl rfl) (esok_cons (eok_idx P.K (run_indexOf P) P.f_indexOf.keep rfl rfl (by decide) rfl rfl rfl rfl rfl rfl) esok_nil (fun _ => rfl)) (fun _ => rfl)) kws_nil (fun _ => rfl) rfl rfl) esok_nil (fun _ => rfl)) (fun _ => rfl)) kws_nil (fun _ => rfl) rfl rfl) (fun _ _ => rfl) rfl rfl rfl rfl)
      (bd_cons (sok_for (k := 64) (itok_call P.K (esok_cons eok_str esok_nil (fun _ => rfl)) (fun _ => rfl) rfl rfl rfl rfl (fun A X φ L S s l vs src hR hW hv e => call_enum hW hv e)) (aok_tuple (AssOk.cons aok_name (AssOk.cons aok_name AssOk.nil)) (fun _ => rfl)) (bd_cons (sok_for (k := 64) (itok_call P.K (esok_cons eok_str esok_nil (fun _ => rfl)) (fun _ => rfl) rfl rfl rfl rfl (fun A X φ L S s l vs src hR hW hv e => call_enum hW hv e)) (aok_tuple (AssOk.cons aok_name (AssOk.cons aok_name AssOk.nil)) (fun _ => rfl)) (bd_cons (sok_if (bok_cmp (eok_name P.K rfl rfl) (eok_name P.K rfl rfl) p_ne rfl) (bd_cons (sok_assign (eok_tuple (esok_cons (eok_call P.K (run_strcoll P).fok P.f_strcoll.keep (esok_cons (eok_item (eok_name P.K rfl rfl) (eok_name P.K rfl rfl)) (esok_cons (eok_item (eok_name P.K rfl rfl) (eok_name P.K rfl rfl)) esok_nil (fun _ => rfl)) (fun _ => rfl)) kws_nil (fun _ => rfl) rfl rfl) (esok_cons (eok_call P.K (run_sub P).fok P.f_sub.keep (esok_cons (eok_item (eok_name P.K rfl rfl) (eok_name P.K rfl rfl)) (esok_cons (eok_item (eok_name P.K rfl rfl) (eok_name P.K rfl rfl)) esok_nil (fun _ => rfl)) (fun _ => rfl)) kws_nil (fun _ => rfl) rfl rfl) (esok_cons (eok_call P.K (run_add P).fok P.f_add.keep (esok_cons (eok_item (eok_name P.K rfl rfl) (eok_name P.K rfl rfl)) (esok_cons (eok_item (eok_name P.K rfl rfl) (eok_name P.K rfl rfl)) esok_nil (fun _ => rfl)) (fun _ => rfl)) kws_nil (fun _ => rfl) rfl rfl) esok_nil (fun _ => rfl)) (fun _ => rfl)) (fun _ => rfl))) (aok_item (eok_name P.K rfl rfl) (eok_bin (eok_name P.K rfl rfl) (eok_name P.K rfl rfl) p_add)) (fun _ => rfl) (fun _ => rfl) (fun _ _ => rfl))
      bd_nil) bd_nil)
      bd_nil) bd_nil (fun _ _ => rfl))
      bd_nil) bd_nil (fun _ _ => rfl))
      (bd_cons (sok_return (eok_name P.K rfl rfl))
      bd_nil))))⟩
noncomputable def F_pairs (P : Txt G mg mb mn mh script) (n : Nat) : FnT := fnF (dfn 26).2.2 (bndP [Str.ofString "told"]) [] fun cs => (B_pairs P n cs).1
theorem run_pairs (P : Txt G mg mb mn mh script) (n : Nat) : FOkC G (n + 2) (.ref 322) (F_pairs P n) := run_p P.K P.f_pairs (bind1 fun _ _ _ _ _ _ _ _ => rfl) (fun cs => (B_pairs P n cs).2) rfl rfl rfl
set_option maxHeartbeats 4000000 in
noncomputable def B_rounds (P : Txt G mg mb mn mh script) (n : Nat) (cs : List (Str × Nat)) : Bd G (n + 4) (dfn 27) cs := ⟨_, (bd_cons (sok_for (k := 64) (itok_val (eok_tuple (esok_cons eok_int (esok_cons eok_int esok_nil (fun _ => rfl)) (fun _ => rfl)))) aok_name (bd_cons (sok_for (k := 64) (itok_call P.K (esok_cons (eok_call P.K fok_len keep_builtin (esok_cons (eok_attr (eok_name P.K rfl rfl) (p_getAttr P.cn rfl lko_pushback)) esok_nil (fun _ => rfl)) kws_nil (fun _ => rfl) rfl rfl) esok_nil (fun _ => rfl)) (fun _ => rfl) rfl rfl rfl rfl (fun A X φ L S s l vs src hR hW hv e => call_range hW hv e)) aok_name (bd_cons (sok_assign (eok_meth (eok_name P.K rfl rfl) (met_fn P.cn rfl P.n_get lko_get_token) (run_get P n).fok P.n_get.keep esok_nil kws_nil (fun _ => rfl) (fun _ => rfl) (fun _ => rfl) rfl) aok_name (fun _ => rfl) (fun _ => rfl) (fun _ _ => rfl))
      (bd_cons (sok_swapped (names := [Str.ofString "head", Str.ofString "rest"]) (eok_tuple (esok_cons (eok_slice P.kl (eok_name P.K rfl rfl) part_none (part_some (eok_name P.K rfl rfl)) part_none) (esok_cons (eok_slice P.kl (eok_name P.K rfl rfl) (part_some (eok_bin (eok_name P.K rfl rfl) eok_int p_add)) part_none part_none) esok_nil (fun _ => rfl)) (fun _ => rfl))) (fun _ => rfl) (fun env h => by obtain ⟨⟩ := env; simp only at h; subst h; kernel_rfl))
      (bd_cons (sok_for (k := 64) (itok_call P.K (esok_cons (eok_name P.K rfl rfl) esok_nil (fun _ => rfl)) (fun _ => rfl) rfl rfl rfl rfl (fun A X φ L S s l vs src hR hW hv e => call_enum hW hv e)) (aok_tuple (AssOk.cons aok_name (AssOk.cons aok_name AssOk.nil)) (fun _ => rfl)) (bd_cons (sok_assign (eok_ifexp (bok_cmp (eok_call P.K (run_mod P).fok P.f_mod.keep (esok_cons (eok_name P.K rfl rfl) (esok_cons eok_int esok_nil (fun _ => rfl)) (fun _ => rfl)) kws_nil (fun _ => rfl) rfl rfl) eok_int p_eq rfl) (eok_call P.K (run_concat P).fok P.f_concat.keep (esok_cons (eok_name P.K rfl rfl) (esok_cons (eok_item (eok_name P.K rfl rfl) (eok_name P.K rfl rfl)) esok_nil (fun _ => rfl)) (fun _ => rfl)) kws_nil (fun _ => rfl) rfl rfl) (eok_call P.K (run_concat P).fok P.f_concat.keep (esok_cons (eok_item (eok_name P.K rfl rfl) (eok_name P.K rfl rfl)) (esok_cons (eok_name P.K rfl rfl) esok_nil (fun _ => rfl)) (fun _ => rfl)) kws_nil (fun _ => rfl) rfl rfl)) aok_name (fun _ => rfl) (fun _ => rfl) (fun _ _ => rfl))
      (bd_cons (sok_expr (eok_meth (eok_name P.K rfl rfl) (met_fn P.cn rfl P.n_push lko_push_token) (run_push P (n + 3)).fok P.n_push.keep (esok_cons (eok_call P.K (run_concat P).fok P.f_concat.keep (esok_cons (eok_call P.K (run_concat P).fok P.f_concat.keep (esok_cons (eok_name P.K rfl rfl) (esok_cons (eok_name P.K rfl rfl) esok_nil (fun _ => rfl)) (fun _ => rfl)) kws_nil (fun _ => rfl) rfl rfl) (esok_cons (eok_bin (eok_slice P.kl (eok_name P.K rfl rfl) part_none (part_some (eok_name P.K rfl rfl)) part_none) (eok_slice P.kl (eok_name P.K rfl rfl) (part_some (eok_bin (eok_name P.K rfl rfl) eok_int p_add)) part_none part_none) p_add) esok_nil (fun _ => rfl)) (fun _ => rfl)) kws_nil (fun _ => rfl) rfl rfl) esok_nil (fun _ => rfl)) kws_nil (fun _ => rfl) (fun _ => rfl) (fun _ => rfl) rfl) (fun env h => intr h) (fun _ => rfl))
      bd_nil)) bd_nil (fun _ _ => rfl))
      bd_nil))) bd_nil (fun _ _ => rfl))
      bd_nil) bd_nil (fun _ _ => rfl))
      bd_nil)⟩
noncomputable def F_rounds (P : Txt G mg mb mn mh script) (n : Nat) : FnT := fnF (dfn 27).2.2 (bndP [Str.ofString "line"]) [] fun cs => (B_rounds P n cs).1
theorem run_rounds (P : Txt G mg mb mn mh script) (n : Nat) : FOkC G (n + 5) (.ref 329) (F_rounds P n) := run_p P.K P.f_rounds (bind1 fun _ _ _ _ _ _ _ _ => rfl) (fun cs => (B_rounds P n cs).2) rfl rfl rfl
end
end Mine
end
section
open PySem PySem.W PyProof.Rows
set_option Elab.async false
set_option maxRecDepth 100000
set_option linter.all false
set_option autoImplicit false
namespace Mine
section
variable {G : Glob} {n : Nat} {mg mb mn mh : Names} {script : List Int}
theorem bdc_cons {fr : Fm} {st : Stmt} {rest : List Stmt} {F Fs : St → Option (AFl × St)} {code : Value} {qual : Str} (h : SOk G n fr st F) (hs : BdOkC G n fr rest Fs false code qual) : BdOkC G n fr (st :: rest) (seqF F Fs) false code qual := by
  intro A X φ env s S a S' h1 h2 h3 hR hE hW e
  exact seq_run e (fun _ => True) (fun fl S₁ e1 => wp_mono' (h A X φ env s S fl S₁ hR hE hW e1) fun _ _ z => ⟨trivial, z⟩) fun S₁ φ₁ s₁ _ p₁ e2 => hs A X φ₁ env s₁ S₁ a S' (fun z => by cases z) h2 h3 hR (hE.pre p₁.nx.pre) p₁.wd e2
theorem bdc_def {fr : Fm} {mg mb : Names} (K : GOk G mg mb) {c P : Addr} (D : DefEnv G mg c P) {name : Str} {params : Arguments} {body : List Stmt} {scope : Scope} {pos : Pos} {ti : Nat} (hd0 : params.defaults = []) (hk0 : params.kw_defaults = []) (ha : ∀ env, annTrees params none env = []) (hg : (fkind fr name == some .globalExplicit) = false)
    {rest : List Stmt} {Fs : St → Option (AFl × St)} {ql : Str} (hs : BdOk G n fr rest Fs) : BdOkC G n fr (.FunctionDef name params body [] none [] scope none name pos :: rest) (seqF (defF fr name params body scope ((mg "__name__").getD .none) P ti ql) Fs) false (.ref c) ql := by
  intro A X φ env s S a S' h1 h2 h3 hR hE hW e
  exact seq_run e (fun _ => True) (fun fl S₁ e1 => wp_mono' (def_run K D hd0 hk0 ha hg hR hE h2 h3 hW e1) fun _ _ z => ⟨trivial, z⟩) fun S₁ φ₁ s₁ _ p₁ e2 => hs A X φ₁ env s₁ S₁ a S' hR (hE.pre p₁.nx.pre) p₁.wd e2
noncomputable abbrev BdC (G : Glob) (n : Nat) (d : Dfn) (cs : List (Str × Nat)) (code : Value) (q : Str) := { F : St → Option (AFl × St) // BdOkC G n ⟨d.2.2, cs⟩ d.2.1 F false code q }
set_option maxHeartbeats 4000000 in
noncomputable def B_lexer (P : Txt G mg mb mn mh script) (n : Nat) (cs : List (Str × Nat)) : BdC G (n + 2) (dfn 21) cs (.ref 292) pieceQ := ⟨_, (bdc_cons (sok_assign (eok_call P.K (fok_class P.cnM (run_ninit P n)) (keep_cls P.cnM) (esok_cons eok_none esok_nil (fun _ => rfl)) kws_nil (fun _ => rfl) rfl rfl) aok_name (fun _ => rfl) (fun _ => rfl) (fun _ _ => rfl))
      (bdc_cons (sok_assign (eok_list esok_nil) aok_name (fun _ => rfl) (fun _ => rfl) (fun _ _ => rfl))
      (bdc_def (ti := 0) P.K P.DE rfl rfl (fun _ => rfl) rfl (bd_cons (sok_assign (eok_name P.K rfl rfl) (aok_attr P.cn P.cnK rfl lko_read (eok_name P.K rfl rfl)) (fun _ => rfl) (fun _ => rfl) (fun _ _ => rfl))
      (bd_cons (sok_assign (eok_call P.K (fok_class P.cnM (run_ninit P n)) (keep_cls P.cnM) (esok_cons (eok_name P.K rfl rfl) esok_nil (fun _ => rfl)) kws_nil (fun _ => rfl) rfl rfl) aok_name (fun _ => rfl) (fun _ => rfl) (fun _ _ => rfl))
      (bd_cons (sok_assign eok_str (aok_attr P.cn P.cnK rfl lko_whitespace (eok_name P.K rfl rfl)) (fun _ => rfl) (fun _ => rfl) (fun _ _ => rfl))
      (bd_cons (sok_return (eok_name P.K rfl rfl))
      bd_nil)))))))⟩
noncomputable def F_lexer (P : Txt G mg mb mn mh script) (n : Nat) : FnT := fnF (dfn 21).2.2 (bndP [Str.ofString "text"]) [] fun cs => (B_lexer P n cs).1
theorem run_lexer (P : Txt G mg mb mn mh script) (n : Nat) : FOkC G (n + 3) (.ref 293) (F_lexer P n) := by
  obtain ⟨o, fd, hf, hq, hc⟩ := P.f_lexer
  have hbind : BindOk G fd (bndP [Str.ofString "text"]) := bind_at hf (bind1 fun _ _ _ _ _ _ _ _ => rfl)
  obtain ⟨h1, h2, h3, h4, h5, h6, h7, h8, h9, h10, h11, h12⟩ := hf
  intro A X φ s H args kw vs kvs v H' hR hh hv hkn hkv h
  exact fn_code (n := n + 2) (flag := false) (Fb := fun cs => (B_lexer P n cs).1) P.K h3 h5 hbind (fun z => by cases z) (by rw [h6, hq, hc]; exact fun cs => (B_lexer P n cs).2) (by rw [h6]; rfl) (by rw [h6]; rfl) (by rw [h6]; rfl) h7 h8 (hh.kin _ h1) (h12 _ hh.kin) (cs₀ := []) (fun x i e => by cases e) hR hh hv hkn hkv (by rw [h6]; exact h)
theorem lexer_keep (P : Txt G mg mb mn mh script) : KeepOk G (.ref 293) := let ⟨_, _, h, _⟩ := P.f_lexer; h.keep
set_option maxHeartbeats 4000000 in
noncomputable def B_law (P : Txt G mg mb mn mh script) (n : Nat) (cs : List (Str × Nat)) : Bd G (n + 5) (dfn 30) cs := ⟨_, bd_cells (x := Str.ofString "line") fun i hi => (bd_cons (sok_assign (eok_call P.K (run_numbers P (n + 3)).fok P.f_numbers.keep (esok_cons (eok_name P.K rfl rfl) esok_nil (fun _ => rfl)) kws_nil (fun _ => rfl) rfl rfl) aok_name (fun _ => rfl) (fun _ => rfl) (fun _ _ => rfl))
      (bd_cons (sok_assign (eok_call P.K (run_text P (n + 3)).fok P.f_text.keep (esok_cons (eok_name P.K rfl rfl) esok_nil (fun _ => rfl)) kws_nil (fun _ => rfl) rfl rfl) (aok_tuple (AssOk.cons aok_name (AssOk.cons aok_name AssOk.nil)) (fun _ => rfl)) (fun _ => rfl) (fun _ => rfl) (fun _ _ => rfl))
      (bd_cons (sok_assign (eok_call P.K (run_lexer P (n + 2)).fok (lexer_keep P) (esok_cons (eok_name P.K rfl rfl) esok_nil (fun _ => rfl)) kws_nil (fun _ => rfl) rfl rfl) aok_name (fun _ => rfl) (fun _ => rfl) (fun _ _ => rfl))
      (bd_cons (sok_comp (k := 64) (cs := [(_, i)]) ⟨clos1 hi rfl, rfl, by decide, by decide⟩ (itok_call P.K (esok_cons eok_int esok_nil (fun _ => rfl)) (fun _ => rfl) rfl rfl rfl rfl (fun A X φ L S s l vs src hR hW hv e => call_range hW hv e)) aok_name (eok_meth (eok_name P.K rfl rfl) (met_fn P.cn rfl P.n_get lko_get_token) (run_get P (n + 1)).fok P.n_get.keep esok_nil kws_nil (fun _ => rfl) (fun _ => rfl) (fun _ => rfl) rfl) (fun _ _ => rfl) rfl rfl rfl rfl)
      (bd_cons (sok_if (bok_cmp (eok_name P.K rfl rfl) (eok_name P.K rfl rfl) p_dataNe rfl) (bd_cons (sok_return eok_bool)
      bd_nil) bd_nil)
      (bd_cons (sok_expr (eok_meth (eok_name P.K rfl rfl) (met_fn P.cn rfl P.n_push lko_push_token) (run_push P (n + 4)).fok P.n_push.keep (esok_cons (eok_item (eok_name P.K rfl rfl) eok_int) esok_nil (fun _ => rfl)) kws_nil (fun _ => rfl) (fun _ => rfl) (fun _ => rfl) rfl) (fun env h => intr h) (fun _ => rfl))
      (bd_cons (sok_expr (eok_call P.K (run_rounds P n).fok P.f_rounds.keep (esok_cons (eok_name P.K rfl rfl) esok_nil (fun _ => rfl)) kws_nil (fun _ => rfl) rfl rfl) (fun env h => intr h) (fun _ => rfl))
      (bd_cons (sok_comp (k := 64) (cs := [(_, i)]) ⟨clos1 hi rfl, rfl, by decide, by decide⟩ (itok_call P.K (esok_cons eok_int esok_nil (fun _ => rfl)) (fun _ => rfl) rfl rfl rfl rfl (fun A X φ L S s l vs src hR hW hv e => call_range hW hv e)) aok_name (eok_meth (eok_name P.K rfl rfl) (met_fn P.cn rfl P.n_get lko_get_token) (run_get P (n + 1)).fok P.n_get.keep esok_nil kws_nil (fun _ => rfl) (fun _ => rfl) (fun _ => rfl) rfl) (fun _ _ => rfl) rfl rfl rfl rfl)
      (bd_cons (sok_if (bok_cmp (eok_meth (eok_name P.K rfl rfl) (met_fn P.cn rfl P.n_get lko_get_token) (run_get P (n + 1)).fok P.n_get.keep esok_nil kws_nil (fun _ => rfl) (fun _ => rfl) (fun _ => rfl) rfl) eok_str p_ne rfl) (bd_cons (sok_return eok_bool)
      bd_nil) bd_nil)
      (bd_cons (sok_return (eok_cmp (eok_call P.K (run_sums P (n + 3)).fok P.f_sums.keep (esok_cons (eok_name P.K rfl rfl) (esok_cons (eok_call P.K (run_pairs P (n + 3)).fok P.f_pairs.keep (esok_cons (eok_call P.K (run_table P (n + 1)).fok P.f_table.keep (esok_cons (eok_name P.K rfl rfl) esok_nil (fun _ => rfl)) kws_nil (fun _ => rfl) rfl rfl) esok_nil (fun _ => rfl)) kws_nil (fun _ => rfl) rfl rfl) esok_nil (fun _ => rfl)) (fun _ => rfl)) kws_nil (fun _ => rfl) rfl rfl) (eok_call P.K (run_order P (n + 4)).fok P.f_order.keep (esok_cons (eok_comp (k := 64) (cs := []) ⟨rfl, rfl, by decide, by decide⟩ (itok_val (eok_name P.K rfl rfl)) aok_name (eok_bin eok_int (eok_bin (eok_name P.K rfl rfl) eok_int p_fmt) p_add) (fun _ _ => rfl)) esok_nil (fun _ => rfl)) kws_nil (fun _ => rfl) rfl rfl) p_dataEq rfl))
      bd_nil))))))))))⟩
noncomputable def F_law (P : Txt G mg mb mn mh script) (n : Nat) : FnT := fnF (dfn 30).2.2 (bndP [Str.ofString "script"]) [] fun cs => (B_law P n cs).1
theorem run_law (P : Txt G mg mb mn mh script) (n : Nat) : FOkC G (n + 6) (.ref 348) (F_law P n) := run_p P.K P.f_law (bind1 fun _ _ _ _ _ _ _ _ => rfl) (fun cs => (B_law P n cs).2) rfl rfl rfl
end
end Mine
end
section
open PySem PySem.W PyProof.Rows
set_option Elab.async false
set_option maxRecDepth 100000
set_option linter.all false
set_option autoImplicit false
namespace Mine
/-- the lexer's heap: what stands ahead is of no concern -/
noncomputable def LX (mg : Names) (z : Nat → AO) (text : Str) (ln : Int) (gone pb : List AV) : List AO :=
  [z 0, z 1, z 2, z 3, z 4, z 5, z 6, z 7, z 8, z 9, z 10, z 11, z 12, z 13, z 14, z 15, z 16, .cell (some (.str text)), .cell (some (.obj 22)),
   .ns [(Str.ofString "lineno", .int 1), (Str.ofString "instream", .c .none), (Str.ofString "whitespace", .str (Str.ofString "\n\t\r ")), (Str.ofString "pushback", .obj 21), (Str.ofString "read", .obj 24)], .inst 83 19, .list [], .list gone, .crec (pieceQ ++ Str.ofString "_law_piece"), .fn (pieceSh mg) [(Str.ofString "text", 17), (Str.ofString "gone", 18)] 23,
   .ns [(Str.ofString "lineno", .int ln), (Str.ofString "instream", .obj 20), (Str.ofString "whitespace", .str (Str.ofString "\n\t\r =")), (Str.ofString "pushback", .obj 27)], .inst 83 25, .list pb]
section
variable {G : Glob} {n : Nat} {mg mb mn mh : Names} {script : List Int}
theorem ev_push (P : Txt G mg mb mn mh script) (z : Nat → AO) (text : Str) (ln : Int) (gone : List AV) (T : List AO) (x : Str) : F_push P n (LX mg z text ln gone [] ++ T) [.obj 26, .str x] [] = some (.c .none, LX mg z text ln gone [.str x] ++ T) := rfl
noncomputable def rows15 : List Str := [Str.ofString "abcdef", Str.ofString "abecdf", Str.ofString "abcfde", Str.ofString "cabdef", Str.ofString "caebdf", Str.ofString "cabfde", Str.ofString "adbcef", Str.ofString "adebcf", Str.ofString "adbfce", Str.ofString "eabcdf", Str.ofString "eadbcf", Str.ofString "eabfcd", Str.ofString "afbcde", Str.ofString "afdbce", Str.ofString "afbecd"]
end
end Mine
end
section
open PySem PySem.W PyProof.Rows
set_option Elab.async false
set_option maxRecDepth 100000
set_option linter.all false
set_option autoImplicit false
namespace Mine
theorem lt2 {P : Nat → Prop} (h0 : P 0) (h1 : P 1) : ∀ k, k < 2 → P k
  | 0, _ => h0
  | 1, _ => h1
theorem lt5 {P : Nat → Prop} (h0 : P 0) (h1 : P 1) (h2 : P 2) (h3 : P 3) (h4 : P 4) : ∀ k, k < 5 → P k
  | 0, _ => h0
  | 1, _ => h1
  | 2, _ => h2
  | 3, _ => h3
  | 4, _ => h4
noncomputable def sg : Nat → Nat
  | 0 => 34
  | 1 => 61
  | 2 => 65
  | 3 => 92
  | _ => 97
noncomputable def esc (x : Nat) : List Nat := if x = 92 then [92, 92] else if x = 34 then [92, 34] else [x]
noncomputable def plainQ (k1 k2 q : Nat) : Bool := q == 0 && (k1 == 2 || k1 == 4) && (k2 == 2 || k2 == 4)
noncomputable def wordL (k1 k2 : Nat) : List Nat := [sg k1, sg k2]
noncomputable def word (k1 k2 : Nat) : Str := ⟨#[sg k1, sg k2]⟩
noncomputable def rowL (c k1 k2 q : Nat) : List Nat := c :: 61 :: (if plainQ k1 k2 q then [sg k1, sg k2] else 34 :: (esc (sg k1) ++ esc (sg k2) ++ [34]))
section
variable {G : Glob} {n : Nat} {mg mb mn mh : Names} {script : List Int}
theorem ev_fmt (P : Txt G mg mb mn mh script) (H : List AO) (c k1 k2 q : Nat) (h1 : k1 < 5) (h2 : k2 < 5) (h3 : q < 2) : F_fmt P n H [.str ⟨#[c]⟩, .str (word k1 k2), .int (q : Nat)] [] = some (.str ⟨(rowL c k1 k2 q).toArray⟩, H) := by
  have key : ∀ k1, k1 < 5 → ∀ k2, k2 < 5 → ∀ q, q < 2 → F_fmt P n H [.str ⟨#[c]⟩, .str (word k1 k2), .int (q : Nat)] [] = some (.str ⟨(rowL c k1 k2 q).toArray⟩, H) := by
    apply lt5 <;> apply lt5 <;> apply lt2 <;> kernel_rfl
  exact key k1 h1 k2 h2 q h3
end
end Mine
end
section
open PySem PySem.W PyProof.Rows
set_option Elab.async false
set_option maxRecDepth 100000
set_option linter.all false
set_option autoImplicit false
namespace Mine
namespace D
theorem loop {Fa : AV → St → Option St} {Fb Fe : St → Option (AFl × St)} {k : Nat} {src src' : ISrc} {S S₁ S₂ : St} {v : AV} {r : Option (AFl × St)} (h1 : inext S.hp src = some (some (v, src'))) (h2 : Fa v S = some S₁) (h3 : Fb S₁ = some (.next, S₂)) (h4 : loopF Fa Fb Fe k src' S₂ = r) : loopF Fa Fb Fe (k + 1) src S = r := turnI1 h1 (bindI h2 (thenI h3 h4))
theorem loopC {Fa : AV → St → Option St} {Fb Fe : St → Option (AFl × St)} {k : Nat} {src src' : ISrc} {S S₁ S₂ : St} {v : AV} {r : Option (AFl × St)} (h1 : inext S.hp src = some (some (v, src'))) (h2 : Fa v S = some S₁) (h3 : Fb S₁ = some (.cont, S₂)) (h4 : loopF Fa Fb Fe k src' S₂ = r) : loopF Fa Fb Fe (k + 1) src S = r := turnI1 h1 (bindI h2 (thenI h3 h4))
theorem loopR {Fa : AV → St → Option St} {Fb Fe : St → Option (AFl × St)} {k : Nat} {src src' : ISrc} {S S₁ S₂ : St} {v w : AV} (h1 : inext S.hp src = some (some (v, src'))) (h2 : Fa v S = some S₁) (h3 : Fb S₁ = some (.ret w, S₂)) : loopF Fa Fb Fe (k + 1) src S = some (.ret w, S₂) := turnI1 h1 (bindI h2 (thenI h3 rfl))
theorem done {Fa : AV → St → Option St} {Fb Fe : St → Option (AFl × St)} {k : Nat} {src : ISrc} {S : St} {r : Option (AFl × St)} (h1 : inext S.hp src = some none) (h2 : Fe S = r) : loopF Fa Fb Fe (k + 1) src S = r := turnI0 h1 h2
theorem «for» {Fi : St → Option (ISrc × St)} {Fa : AV → St → Option St} {Fb Fe : St → Option (AFl × St)} {k : Nat} {target : Expr} {src : ISrc} {S S₁ : St} {r : Option (AFl × St)} (h1 : Fi S = some (src, S₁)) (h2 : targetOk src target = true) (h3 : loopF Fa Fb Fe k src S₁ = r) : forF k Fi Fa Fb Fe target S = r := thenI h1 ((if_pos h2).trans h3)
end D
section
variable {G : Glob} {n : Nat} {mg mb mn mh : Names} {script : List Int}
noncomputable def sgnS : Str := Str.ofString "\"=A\\a"
/-- one place of the sign row -/
theorem item_sg {H : List AO} {e : Int} {k : Nat} (hk : k < 5) (he : e = (k : Nat)) : itemA H (.str sgnS) (.int e) = some (.str ⟨#[sg k]⟩, H) := by
  subst he
  revert k
  apply lt5 <;> kernel_rfl
noncomputable abbrev nx (s : String) : Str := Str.ofString s
structure Num (d : Int) (k1 k2 q : Nat) : Prop where
  h1 : k1 < 5
  h2 : k2 < 5
  h3 : q < 2
  e1 : (d.fmod 25).fdiv 5 = (k1 : Nat)
  e2 : d.fmod 5 = (k2 : Nat)
  e3 : (d.fdiv 25).fmod 2 = (q : Nat)
noncomputable def rowS (c k1 k2 q : Nat) : Str := ⟨(rowL c k1 k2 q ++ [10]).toArray⟩
noncomputable def tS0 (z : Nat → AO) (d : Nat → Int) (k1 k2 q : Nat → Nat) : St := (⟨[z 0, z 1, z 2, z 3, z 4, z 5, .list [.int (d 0), .int (d 1), .int (d 2), .int (d 3), .int (d 4), .int (d 5)], .list [], .list []], [(nx "numbers", .obj 6), (nx "awaited", .obj 8), (nx "rows", .obj 7), (nx "signs", .str sgnS)]⟩ : St)
noncomputable def tA0 (z : Nat → AO) (d : Nat → Int) (k1 k2 q : Nat → Nat) : St := (⟨[z 0, z 1, z 2, z 3, z 4, z 5, .list [.int (d 0), .int (d 1), .int (d 2), .int (d 3), .int (d 4), .int (d 5)], .list [], .list []], [(nx "numbers", .obj 6), (nx "awaited", .obj 8), (nx "rows", .obj 7), (nx "signs", .str sgnS), (nx "letter", .str ⟨#[97]⟩), (nx "number", .int (d 0))]⟩ : St)
noncomputable def tB0 (z : Nat → AO) (d : Nat → Int) (k1 k2 q : Nat → Nat) : St := (⟨[z 0, z 1, z 2, z 3, z 4, z 5, .list [.int (d 0), .int (d 1), .int (d 2), .int (d 3), .int (d 4), .int (d 5)], .list [], .list []], [(nx "numbers", .obj 6), (nx "awaited", .obj 8), (nx "rows", .obj 7), (nx "signs", .str sgnS), (nx "letter", .str ⟨#[97]⟩), (nx "number", .int (d 0)), (nx "word", .str (word (k1 0) (k2 0)))]⟩ : St)
noncomputable def tC0 (z : Nat → AO) (d : Nat → Int) (k1 k2 q : Nat → Nat) : St := ⟨[z 0, z 1, z 2, z 3, z 4, z 5, .list [.int (d 0), .int (d 1), .int (d 2), .int (d 3), .int (d 4), .int (d 5)], .list [.str (rowS 97 (k1 0) (k2 0) (q 0))], .list []], [(nx "numbers", .obj 6), (nx "awaited", .obj 8), (nx "rows", .obj 7), (nx "signs", .str sgnS), (nx "letter", .str ⟨#[97]⟩), (nx "number", .int (d 0)), (nx "word", .str (word (k1 0) (k2 0)))]⟩
noncomputable def tS1 (z : Nat → AO) (d : Nat → Int) (k1 k2 q : Nat → Nat) : St := (⟨[z 0, z 1, z 2, z 3, z 4, z 5, .list [.int (d 0), .int (d 1), .int (d 2), .int (d 3), .int (d 4), .int (d 5)], .list [.str (rowS 97 (k1 0) (k2 0) (q 0))], .list [.str ⟨#[97]⟩, .str (word (k1 0) (k2 0))], .list [.str ⟨#[97]⟩, .str (word (k1 0) (k2 0))]], [(nx "numbers", .obj 6), (nx "awaited", .obj 8), (nx "rows", .obj 7), (nx "signs", .str sgnS), (nx "letter", .str ⟨#[97]⟩), (nx "number", .int (d 0)), (nx "word", .str (word (k1 0) (k2 0)))]⟩ : St)
noncomputable def tA1 (z : Nat → AO) (d : Nat → Int) (k1 k2 q : Nat → Nat) : St := (⟨[z 0, z 1, z 2, z 3, z 4, z 5, .list [.int (d 0), .int (d 1), .int (d 2), .int (d 3), .int (d 4), .int (d 5)], .list [.str (rowS 97 (k1 0) (k2 0) (q 0))], .list [.str ⟨#[97]⟩, .str (word (k1 0) (k2 0))], .list [.str ⟨#[97]⟩, .str (word (k1 0) (k2 0))]], [(nx "numbers", .obj 6), (nx "awaited", .obj 8), (nx "rows", .obj 7), (nx "signs", .str sgnS), (nx "letter", .str ⟨#[98]⟩), (nx "number", .int (d 1)), (nx "word", .str (word (k1 0) (k2 0)))]⟩ : St)
noncomputable def tB1 (z : Nat → AO) (d : Nat → Int) (k1 k2 q : Nat → Nat) : St := (⟨[z 0, z 1, z 2, z 3, z 4, z 5, .list [.int (d 0), .int (d 1), .int (d 2), .int (d 3), .int (d 4), .int (d 5)], .list [.str (rowS 97 (k1 0) (k2 0) (q 0))], .list [.str ⟨#[97]⟩, .str (word (k1 0) (k2 0))], .list [.str ⟨#[97]⟩, .str (word (k1 0) (k2 0))]], [(nx "numbers", .obj 6), (nx "awaited", .obj 8), (nx "rows", .obj 7), (nx "signs", .str sgnS), (nx "letter", .str ⟨#[98]⟩), (nx "number", .int (d 1)), (nx "word", .str (word (k1 1) (k2 1)))]⟩ : St)
noncomputable def tC1 (z : Nat → AO) (d : Nat → Int) (k1 k2 q : Nat → Nat) : St := ⟨[z 0, z 1, z 2, z 3, z 4, z 5, .list [.int (d 0), .int (d 1), .int (d 2), .int (d 3), .int (d 4), .int (d 5)], .list [.str (rowS 97 (k1 0) (k2 0) (q 0)), .str (rowS 98 (k1 1) (k2 1) (q 1))], .list [.str ⟨#[97]⟩, .str (word (k1 0) (k2 0))], .list [.str ⟨#[97]⟩, .str (word (k1 0) (k2 0))]], [(nx "numbers", .obj 6), (nx "awaited", .obj 8), (nx "rows", .obj 7), (nx "signs", .str sgnS), (nx "letter", .str ⟨#[98]⟩), (nx "number", .int (d 1)), (nx "word", .str (word (k1 1) (k2 1)))]⟩
noncomputable def tS2 (z : Nat → AO) (d : Nat → Int) (k1 k2 q : Nat → Nat) : St := (⟨[z 0, z 1, z 2, z 3, z 4, z 5, .list [.int (d 0), .int (d 1), .int (d 2), .int (d 3), .int (d 4), .int (d 5)], .list [.str (rowS 97 (k1 0) (k2 0) (q 0)), .str (rowS 98 (k1 1) (k2 1) (q 1))], .list [.str ⟨#[97]⟩, .str (word (k1 0) (k2 0)), .str ⟨#[98]⟩, .str (word (k1 1) (k2 1))], .list [.str ⟨#[97]⟩, .str (word (k1 0) (k2 0))], .list [.str ⟨#[98]⟩, .str (word (k1 1) (k2 1))]], [(nx "numbers", .obj 6), (nx "awaited", .obj 8), (nx "rows", .obj 7), (nx "signs", .str sgnS), (nx "letter", .str ⟨#[98]⟩), (nx "number", .int (d 1)), (nx "word", .str (word (k1 1) (k2 1)))]⟩ : St)
noncomputable def tA2 (z : Nat → AO) (d : Nat → Int) (k1 k2 q : Nat → Nat) : St := (⟨[z 0, z 1, z 2, z 3, z 4, z 5, .list [.int (d 0), .int (d 1), .int (d 2), .int (d 3), .int (d 4), .int (d 5)], .list [.str (rowS 97 (k1 0) (k2 0) (q 0)), .str (rowS 98 (k1 1) (k2 1) (q 1))], .list [.str ⟨#[97]⟩, .str (word (k1 0) (k2 0)), .str ⟨#[98]⟩, .str (word (k1 1) (k2 1))], .list [.str ⟨#[97]⟩, .str (word (k1 0) (k2 0))], .list [.str ⟨#[98]⟩, .str (word (k1 1) (k2 1))]], [(nx "numbers", .obj 6), (nx "awaited", .obj 8), (nx "rows", .obj 7), (nx "signs", .str sgnS), (nx "letter", .str ⟨#[99]⟩), (nx "number", .int (d 2)), (nx "word", .str (word (k1 1) (k2 1)))]⟩ : St)
noncomputable def tB2 (z : Nat → AO) (d : Nat → Int) (k1 k2 q : Nat → Nat) : St := (⟨[z 0, z 1, z 2, z 3, z 4, z 5, .list [.int (d 0), .int (d 1), .int (d 2), .int (d 3), .int (d 4), .int (d 5)], .list [.str (rowS 97 (k1 0) (k2 0) (q 0)), .str (rowS 98 (k1 1) (k2 1) (q 1))], .list [.str ⟨#[97]⟩, .str (word (k1 0) (k2 0)), .str ⟨#[98]⟩, .str (word (k1 1) (k2 1))], .list [.str ⟨#[97]⟩, .str (word (k1 0) (k2 0))], .list [.str ⟨#[98]⟩, .str (word (k1 1) (k2 1))]], [(nx "numbers", .obj 6), (nx "awaited", .obj 8), (nx "rows", .obj 7), (nx "signs", .str sgnS), (nx "letter", .str ⟨#[99]⟩), (nx "number", .int (d 2)), (nx "word", .str (word (k1 2) (k2 2)))]⟩ : St)
noncomputable def tC2 (z : Nat → AO) (d : Nat → Int) (k1 k2 q : Nat → Nat) : St := ⟨[z 0, z 1, z 2, z 3, z 4, z 5, .list [.int (d 0), .int (d 1), .int (d 2), .int (d 3), .int (d 4), .int (d 5)], .list [.str (rowS 97 (k1 0) (k2 0) (q 0)), .str (rowS 98 (k1 1) (k2 1) (q 1)), .str (rowS 99 (k1 2) (k2 2) (q 2))], .list [.str ⟨#[97]⟩, .str (word (k1 0) (k2 0)), .str ⟨#[98]⟩, .str (word (k1 1) (k2 1))], .list [.str ⟨#[97]⟩, .str (word (k1 0) (k2 0))], .list [.str ⟨#[98]⟩, .str (word (k1 1) (k2 1))]], [(nx "numbers", .obj 6), (nx "awaited", .obj 8), (nx "rows", .obj 7), (nx "signs", .str sgnS), (nx "letter", .str ⟨#[99]⟩), (nx "number", .int (d 2)), (nx "word", .str (word (k1 2) (k2 2)))]⟩
noncomputable def tS3 (z : Nat → AO) (d : Nat → Int) (k1 k2 q : Nat → Nat) : St := (⟨[z 0, z 1, z 2, z 3, z 4, z 5, .list [.int (d 0), .int (d 1), .int (d 2), .int (d 3), .int (d 4), .int (d 5)], .list [.str (rowS 97 (k1 0) (k2 0) (q 0)), .str (rowS 98 (k1 1) (k2 1) (q 1)), .str (rowS 99 (k1 2) (k2 2) (q 2))], .list [.str ⟨#[97]⟩, .str (word (k1 0) (k2 0)), .str ⟨#[98]⟩, .str (word (k1 1) (k2 1)), .str ⟨#[99]⟩, .str (word (k1 2) (k2 2))], .list [.str ⟨#[97]⟩, .str (word (k1 0) (k2 0))], .list [.str ⟨#[98]⟩, .str (word (k1 1) (k2 1))], .list [.str ⟨#[99]⟩, .str (word (k1 2) (k2 2))]], [(nx "numbers", .obj 6), (nx "awaited", .obj 8), (nx "rows", .obj 7), (nx "signs", .str sgnS), (nx "letter", .str ⟨#[99]⟩), (nx "number", .int (d 2)), (nx "word", .str (word (k1 2) (k2 2)))]⟩ : St)
noncomputable def tA3 (z : Nat → AO) (d : Nat → Int) (k1 k2 q : Nat → Nat) : St := (⟨[z 0, z 1, z 2, z 3, z 4, z 5, .list [.int (d 0), .int (d 1), .int (d 2), .int (d 3), .int (d 4), .int (d 5)], .list [.str (rowS 97 (k1 0) (k2 0) (q 0)), .str (rowS 98 (k1 1) (k2 1) (q 1)), .str (rowS 99 (k1 2) (k2 2) (q 2))], .list [.str ⟨#[97]⟩, .str (word (k1 0) (k2 0)), .str ⟨#[98]⟩, .str (word (k1 1) (k2 1)), .str ⟨#[99]⟩, .str (word (k1 2) (k2 2))], .list [.str ⟨#[97]⟩, .str (word (k1 0) (k2 0))], .list [.str ⟨#[98]⟩, .str (word (k1 1) (k2 1))], .list [.str ⟨#[99]⟩, .str (word (k1 2) (k2 2))]], [(nx "numbers", .obj 6), (nx "awaited", .obj 8), (nx "rows", .obj 7), (nx "signs", .str sgnS), (nx "letter", .str ⟨#[100]⟩), (nx "number", .int (d 3)), (nx "word", .str (word (k1 2) (k2 2)))]⟩ : St)
noncomputable def tB3 (z : Nat → AO) (d : Nat → Int) (k1 k2 q : Nat → Nat) : St := (⟨[z 0, z 1, z 2, z 3, z 4, z 5, .list [.int (d 0), .int (d 1), .int (d 2), .int (d 3), .int (d 4), .int (d 5)], .list [.str (rowS 97 (k1 0) (k2 0) (q 0)), .str (rowS 98 (k1 1) (k2 1) (q 1)), .str (rowS 99 (k1 2) (k2 2) (q 2))], .list [.str ⟨#[97]⟩, .str (word (k1 0) (k2 0)), .str ⟨#[98]⟩, .str (word (k1 1) (k2 1)), .str ⟨#[99]⟩, .str (word (k1 2) (k2 2))], .list [.str ⟨#[97]⟩, .str (word (k1 0) (k2 0))], .list [.str ⟨#[98]⟩, .str (word (k1 1) (k2 1))], .list [.str ⟨#[99]⟩, .str (word (k1 2) (k2 2))]], [(nx "numbers", .obj 6), (nx "awaited", .obj 8), (nx "rows", .obj 7), (nx "signs", .str sgnS), (nx "letter", .str ⟨#[100]⟩), (nx "number", .int (d 3)), (nx "word", .str (word (k1 3) (k2 3)))]⟩ : St)
noncomputable def tC3 (z : Nat → AO) (d : Nat → Int) (k1 k2 q : Nat → Nat) : St := ⟨[z 0, z 1, z 2, z 3, z 4, z 5, .list [.int (d 0), .int (d 1), .int (d 2), .int (d 3), .int (d 4), .int (d 5)], .list [.str (rowS 97 (k1 0) (k2 0) (q 0)), .str (rowS 98 (k1 1) (k2 1) (q 1)), .str (rowS 99 (k1 2) (k2 2) (q 2)), .str (rowS 100 (k1 3) (k2 3) (q 3))], .list [.str ⟨#[97]⟩, .str (word (k1 0) (k2 0)), .str ⟨#[98]⟩, .str (word (k1 1) (k2 1)), .str ⟨#[99]⟩, .str (word (k1 2) (k2 2))], .list [.str ⟨#[97]⟩, .str (word (k1 0) (k2 0))], .list [.str ⟨#[98]⟩, .str (word (k1 1) (k2 1))], .list [.str ⟨#[99]⟩, .str (word (k1 2) (k2 2))]], [(nx "numbers", .obj 6), (nx "awaited", .obj 8), (nx "rows", .obj 7), (nx "signs", .str sgnS), (nx "letter", .str ⟨#[100]⟩), (nx "number", .int (d 3)), (nx "word", .str (word (k1 3) (k2 3)))]⟩
noncomputable def tS4 (z : Nat → AO) (d : Nat → Int) (k1 k2 q : Nat → Nat) : St := (⟨[z 0, z 1, z 2, z 3, z 4, z 5, .list [.int (d 0), .int (d 1), .int (d 2), .int (d 3), .int (d 4), .int (d 5)], .list [.str (rowS 97 (k1 0) (k2 0) (q 0)), .str (rowS 98 (k1 1) (k2 1) (q 1)), .str (rowS 99 (k1 2) (k2 2) (q 2)), .str (rowS 100 (k1 3) (k2 3) (q 3))], .list [.str ⟨#[97]⟩, .str (word (k1 0) (k2 0)), .str ⟨#[98]⟩, .str (word (k1 1) (k2 1)), .str ⟨#[99]⟩, .str (word (k1 2) (k2 2)), .str ⟨#[100]⟩, .str (word (k1 3) (k2 3))], .list [.str ⟨#[97]⟩, .str (word (k1 0) (k2 0))], .list [.str ⟨#[98]⟩, .str (word (k1 1) (k2 1))], .list [.str ⟨#[99]⟩, .str (word (k1 2) (k2 2))], .list [.str ⟨#[100]⟩, .str (word (k1 3) (k2 3))]], [(nx "numbers", .obj 6), (nx "awaited", .obj 8), (nx "rows", .obj 7), (nx "signs", .str sgnS), (nx "letter", .str ⟨#[100]⟩), (nx "number", .int (d 3)), (nx "word", .str (word (k1 3) (k2 3)))]⟩ : St)
noncomputable def tA4 (z : Nat → AO) (d : Nat → Int) (k1 k2 q : Nat → Nat) : St := (⟨[z 0, z 1, z 2, z 3, z 4, z 5, .list [.int (d 0), .int (d 1), .int (d 2), .int (d 3), .int (d 4), .int (d 5)], .list [.str (rowS 97 (k1 0) (k2 0) (q 0)), .str (rowS 98 (k1 1) (k2 1) (q 1)), .str (rowS 99 (k1 2) (k2 2) (q 2)), .str (rowS 100 (k1 3) (k2 3) (q 3))], .list [.str ⟨#[97]⟩, .str (word (k1 0) (k2 0)), .str ⟨#[98]⟩, .str (word (k1 1) (k2 1)), .str ⟨#[99]⟩, .str (word (k1 2) (k2 2)), .str ⟨#[100]⟩, .str (word (k1 3) (k2 3))], .list [.str ⟨#[97]⟩, .str (word (k1 0) (k2 0))], .list [.str ⟨#[98]⟩, .str (word (k1 1) (k2 1))], .list [.str ⟨#[99]⟩, .str (word (k1 2) (k2 2))], .list [.str ⟨#[100]⟩, .str (word (k1 3) (k2 3))]], [(nx "numbers", .obj 6), (nx "awaited", .obj 8), (nx "rows", .obj 7), (nx "signs", .str sgnS), (nx "letter", .str ⟨#[101]⟩), (nx "number", .int (d 4)), (nx "word", .str (word (k1 3) (k2 3)))]⟩ : St)
noncomputable def tB4 (z : Nat → AO) (d : Nat → Int) (k1 k2 q : Nat → Nat) : St := (⟨[z 0, z 1, z 2, z 3, z 4, z 5, .list [.int (d 0), .int (d 1), .int (d 2), .int (d 3), .int (d 4), .int (d 5)], .list [.str (rowS 97 (k1 0) (k2 0) (q 0)), .str (rowS 98 (k1 1) (k2 1) (q 1)), .str (rowS 99 (k1 2) (k2 2) (q 2)), .str (rowS 100 (k1 3) (k2 3) (q 3))], .list [.str ⟨#[97]⟩, .str (word (k1 0) (k2 0)), .str ⟨#[98]⟩, .str (word (k1 1) (k2 1)), .str ⟨#[99]⟩, .str (word (k1 2) (k2 2)), .str ⟨#[100]⟩, .str (word (k1 3) (k2 3))], .list [.str ⟨#[97]⟩, .str (word (k1 0) (k2 0))], .list [.str ⟨#[98]⟩, .str (word (k1 1) (k2 1))], .list [.str ⟨#[99]⟩, .str (word (k1 2) (k2 2))], .list [.str ⟨#[100]⟩, .str (word (k1 3) (k2 3))]], [(nx "numbers", .obj 6), (nx "awaited", .obj 8), (nx "rows", .obj 7), (nx "signs", .str sgnS), (nx "letter", .str ⟨#[101]⟩), (nx "number", .int (d 4)), (nx "word", .str (word (k1 4) (k2 4)))]⟩ : St)
noncomputable def tC4 (z : Nat → AO) (d : Nat → Int) (k1 k2 q : Nat → Nat) : St := ⟨[z 0, z 1, z 2, z 3, z 4, z 5, .list [.int (d 0), .int (d 1), .int (d 2), .int (d 3), .int (d 4), .int (d 5)], .list [.str (rowS 97 (k1 0) (k2 0) (q 0)), .str (rowS 98 (k1 1) (k2 1) (q 1)), .str (rowS 99 (k1 2) (k2 2) (q 2)), .str (rowS 100 (k1 3) (k2 3) (q 3)), .str (rowS 101 (k1 4) (k2 4) (q 4))], .list [.str ⟨#[97]⟩, .str (word (k1 0) (k2 0)), .str ⟨#[98]⟩, .str (word (k1 1) (k2 1)), .str ⟨#[99]⟩, .str (word (k1 2) (k2 2)), .str ⟨#[100]⟩, .str (word (k1 3) (k2 3))], .list [.str ⟨#[97]⟩, .str (word (k1 0) (k2 0))], .list [.str ⟨#[98]⟩, .str (word (k1 1) (k2 1))], .list [.str ⟨#[99]⟩, .str (word (k1 2) (k2 2))], .list [.str ⟨#[100]⟩, .str (word (k1 3) (k2 3))]], [(nx "numbers", .obj 6), (nx "awaited", .obj 8), (nx "rows", .obj 7), (nx "signs", .str sgnS), (nx "letter", .str ⟨#[101]⟩), (nx "number", .int (d 4)), (nx "word", .str (word (k1 4) (k2 4)))]⟩
noncomputable def tS5 (z : Nat → AO) (d : Nat → Int) (k1 k2 q : Nat → Nat) : St := (⟨[z 0, z 1, z 2, z 3, z 4, z 5, .list [.int (d 0), .int (d 1), .int (d 2), .int (d 3), .int (d 4), .int (d 5)], .list [.str (rowS 97 (k1 0) (k2 0) (q 0)), .str (rowS 98 (k1 1) (k2 1) (q 1)), .str (rowS 99 (k1 2) (k2 2) (q 2)), .str (rowS 100 (k1 3) (k2 3) (q 3)), .str (rowS 101 (k1 4) (k2 4) (q 4))], .list [.str ⟨#[97]⟩, .str (word (k1 0) (k2 0)), .str ⟨#[98]⟩, .str (word (k1 1) (k2 1)), .str ⟨#[99]⟩, .str (word (k1 2) (k2 2)), .str ⟨#[100]⟩, .str (word (k1 3) (k2 3)), .str ⟨#[101]⟩, .str (word (k1 4) (k2 4))], .list [.str ⟨#[97]⟩, .str (word (k1 0) (k2 0))], .list [.str ⟨#[98]⟩, .str (word (k1 1) (k2 1))], .list [.str ⟨#[99]⟩, .str (word (k1 2) (k2 2))], .list [.str ⟨#[100]⟩, .str (word (k1 3) (k2 3))], .list [.str ⟨#[101]⟩, .str (word (k1 4) (k2 4))]], [(nx "numbers", .obj 6), (nx "awaited", .obj 8), (nx "rows", .obj 7), (nx "signs", .str sgnS), (nx "letter", .str ⟨#[101]⟩), (nx "number", .int (d 4)), (nx "word", .str (word (k1 4) (k2 4)))]⟩ : St)
noncomputable def tA5 (z : Nat → AO) (d : Nat → Int) (k1 k2 q : Nat → Nat) : St := (⟨[z 0, z 1, z 2, z 3, z 4, z 5, .list [.int (d 0), .int (d 1), .int (d 2), .int (d 3), .int (d 4), .int (d 5)], .list [.str (rowS 97 (k1 0) (k2 0) (q 0)), .str (rowS 98 (k1 1) (k2 1) (q 1)), .str (rowS 99 (k1 2) (k2 2) (q 2)), .str (rowS 100 (k1 3) (k2 3) (q 3)), .str (rowS 101 (k1 4) (k2 4) (q 4))], .list [.str ⟨#[97]⟩, .str (word (k1 0) (k2 0)), .str ⟨#[98]⟩, .str (word (k1 1) (k2 1)), .str ⟨#[99]⟩, .str (word (k1 2) (k2 2)), .str ⟨#[100]⟩, .str (word (k1 3) (k2 3)), .str ⟨#[101]⟩, .str (word (k1 4) (k2 4))], .list [.str ⟨#[97]⟩, .str (word (k1 0) (k2 0))], .list [.str ⟨#[98]⟩, .str (word (k1 1) (k2 1))], .list [.str ⟨#[99]⟩, .str (word (k1 2) (k2 2))], .list [.str ⟨#[100]⟩, .str (word (k1 3) (k2 3))], .list [.str ⟨#[101]⟩, .str (word (k1 4) (k2 4))]], [(nx "numbers", .obj 6), (nx "awaited", .obj 8), (nx "rows", .obj 7), (nx "signs", .str sgnS), (nx "letter", .str ⟨#[102]⟩), (nx "number", .int (d 5)), (nx "word", .str (word (k1 4) (k2 4)))]⟩ : St)
noncomputable def tB5 (z : Nat → AO) (d : Nat → Int) (k1 k2 q : Nat → Nat) : St := (⟨[z 0, z 1, z 2, z 3, z 4, z 5, .list [.int (d 0), .int (d 1), .int (d 2), .int (d 3), .int (d 4), .int (d 5)], .list [.str (rowS 97 (k1 0) (k2 0) (q 0)), .str (rowS 98 (k1 1) (k2 1) (q 1)), .str (rowS 99 (k1 2) (k2 2) (q 2)), .str (rowS 100 (k1 3) (k2 3) (q 3)), .str (rowS 101 (k1 4) (k2 4) (q 4))], .list [.str ⟨#[97]⟩, .str (word (k1 0) (k2 0)), .str ⟨#[98]⟩, .str (word (k1 1) (k2 1)), .str ⟨#[99]⟩, .str (word (k1 2) (k2 2)), .str ⟨#[100]⟩, .str (word (k1 3) (k2 3)), .str ⟨#[101]⟩, .str (word (k1 4) (k2 4))], .list [.str ⟨#[97]⟩, .str (word (k1 0) (k2 0))], .list [.str ⟨#[98]⟩, .str (word (k1 1) (k2 1))], .list [.str ⟨#[99]⟩, .str (word (k1 2) (k2 2))], .list [.str ⟨#[100]⟩, .str (word (k1 3) (k2 3))], .list [.str ⟨#[101]⟩, .str (word (k1 4) (k2 4))]], [(nx "numbers", .obj 6), (nx "awaited", .obj 8), (nx "rows", .obj 7), (nx "signs", .str sgnS), (nx "letter", .str ⟨#[102]⟩), (nx "number", .int (d 5)), (nx "word", .str (word (k1 5) (k2 5)))]⟩ : St)
noncomputable def tC5 (z : Nat → AO) (d : Nat → Int) (k1 k2 q : Nat → Nat) : St := ⟨[z 0, z 1, z 2, z 3, z 4, z 5, .list [.int (d 0), .int (d 1), .int (d 2), .int (d 3), .int (d 4), .int (d 5)], .list [.str (rowS 97 (k1 0) (k2 0) (q 0)), .str (rowS 98 (k1 1) (k2 1) (q 1)), .str (rowS 99 (k1 2) (k2 2) (q 2)), .str (rowS 100 (k1 3) (k2 3) (q 3)), .str (rowS 101 (k1 4) (k2 4) (q 4)), .str (rowS 102 (k1 5) (k2 5) (q 5))], .list [.str ⟨#[97]⟩, .str (word (k1 0) (k2 0)), .str ⟨#[98]⟩, .str (word (k1 1) (k2 1)), .str ⟨#[99]⟩, .str (word (k1 2) (k2 2)), .str ⟨#[100]⟩, .str (word (k1 3) (k2 3)), .str ⟨#[101]⟩, .str (word (k1 4) (k2 4))], .list [.str ⟨#[97]⟩, .str (word (k1 0) (k2 0))], .list [.str ⟨#[98]⟩, .str (word (k1 1) (k2 1))], .list [.str ⟨#[99]⟩, .str (word (k1 2) (k2 2))], .list [.str ⟨#[100]⟩, .str (word (k1 3) (k2 3))], .list [.str ⟨#[101]⟩, .str (word (k1 4) (k2 4))]], [(nx "numbers", .obj 6), (nx "awaited", .obj 8), (nx "rows", .obj 7), (nx "signs", .str sgnS), (nx "letter", .str ⟨#[102]⟩), (nx "number", .int (d 5)), (nx "word", .str (word (k1 5) (k2 5)))]⟩
noncomputable def tS6 (z : Nat → AO) (d : Nat → Int) (k1 k2 q : Nat → Nat) : St := (⟨[z 0, z 1, z 2, z 3, z 4, z 5, .list [.int (d 0), .int (d 1), .int (d 2), .int (d 3), .int (d 4), .int (d 5)], .list [.str (rowS 97 (k1 0) (k2 0) (q 0)), .str (rowS 98 (k1 1) (k2 1) (q 1)), .str (rowS 99 (k1 2) (k2 2) (q 2)), .str (rowS 100 (k1 3) (k2 3) (q 3)), .str (rowS 101 (k1 4) (k2 4) (q 4)), .str (rowS 102 (k1 5) (k2 5) (q 5))], .list [.str ⟨#[97]⟩, .str (word (k1 0) (k2 0)), .str ⟨#[98]⟩, .str (word (k1 1) (k2 1)), .str ⟨#[99]⟩, .str (word (k1 2) (k2 2)), .str ⟨#[100]⟩, .str (word (k1 3) (k2 3)), .str ⟨#[101]⟩, .str (word (k1 4) (k2 4)), .str ⟨#[102]⟩, .str (word (k1 5) (k2 5))], .list [.str ⟨#[97]⟩, .str (word (k1 0) (k2 0))], .list [.str ⟨#[98]⟩, .str (word (k1 1) (k2 1))], .list [.str ⟨#[99]⟩, .str (word (k1 2) (k2 2))], .list [.str ⟨#[100]⟩, .str (word (k1 3) (k2 3))], .list [.str ⟨#[101]⟩, .str (word (k1 4) (k2 4))], .list [.str ⟨#[102]⟩, .str (word (k1 5) (k2 5))]], [(nx "numbers", .obj 6), (nx "awaited", .obj 8), (nx "rows", .obj 7), (nx "signs", .str sgnS), (nx "letter", .str ⟨#[102]⟩), (nx "number", .int (d 5)), (nx "word", .str (word (k1 5) (k2 5)))]⟩ : St)
noncomputable def tE (z : Nat → AO) (d : Nat → Int) (k1 k2 q : Nat → Nat) : St := ⟨[z 0, z 1, z 2, z 3, z 4, z 5, .list [.int (d 0), .int (d 1), .int (d 2), .int (d 3), .int (d 4), .int (d 5)], .list [.str (rowS 97 (k1 0) (k2 0) (q 0)), .str (rowS 98 (k1 1) (k2 1) (q 1)), .str (rowS 99 (k1 2) (k2 2) (q 2)), .str (rowS 100 (k1 3) (k2 3) (q 3)), .str (rowS 101 (k1 4) (k2 4) (q 4)), .str (rowS 102 (k1 5) (k2 5) (q 5))], .list [.str ⟨#[97]⟩, .str (word (k1 0) (k2 0)), .str ⟨#[98]⟩, .str (word (k1 1) (k2 1)), .str ⟨#[99]⟩, .str (word (k1 2) (k2 2)), .str ⟨#[100]⟩, .str (word (k1 3) (k2 3)), .str ⟨#[101]⟩, .str (word (k1 4) (k2 4)), .str ⟨#[102]⟩, .str (word (k1 5) (k2 5))], .list [.str ⟨#[97]⟩, .str (word (k1 0) (k2 0))], .list [.str ⟨#[98]⟩, .str (word (k1 1) (k2 1))], .list [.str ⟨#[99]⟩, .str (word (k1 2) (k2 2))], .list [.str ⟨#[100]⟩, .str (word (k1 3) (k2 3))], .list [.str ⟨#[101]⟩, .str (word (k1 4) (k2 4))], .list [.str ⟨#[102]⟩, .str (word (k1 5) (k2 5))], .list [.str (nx "abcdef"), .str (nx "")], .list ([.str ⟨#[97]⟩, .str (word (k1 0) (k2 0)), .str ⟨#[98]⟩, .str (word (k1 1) (k2 1)), .str ⟨#[99]⟩, .str (word (k1 2) (k2 2)), .str ⟨#[100]⟩, .str (word (k1 3) (k2 3)), .str ⟨#[101]⟩, .str (word (k1 4) (k2 4)), .str ⟨#[102]⟩, .str (word (k1 5) (k2 5))] ++ [.str (nx "abcdef"), .str (nx "")])], [(nx "numbers", .obj 6), (nx "awaited", .obj 8), (nx "rows", .obj 7), (nx "signs", .str sgnS), (nx "letter", .str ⟨#[102]⟩), (nx "number", .int (d 5)), (nx "word", .str (word (k1 5) (k2 5)))]⟩
noncomputable def rowsL (k1 k2 q : Nat → Nat) : List Nat := (rowL 97 (k1 0) (k2 0) (q 0) ++ [10]) ++ (rowL 98 (k1 1) (k2 1) (q 1) ++ [10]) ++ (rowL 99 (k1 2) (k2 2) (q 2) ++ [10]) ++ (rowL 100 (k1 3) (k2 3) (q 3) ++ [10]) ++ (rowL 101 (k1 4) (k2 4) (q 4) ++ [10]) ++ (rowL 102 (k1 5) (k2 5) (q 5) ++ [10])
noncomputable def text (k1 k2 q : Nat → Nat) : Str := ⟨(rowsL k1 k2 q ++ [97, 98, 99, 100, 101, 102, 10]).toArray⟩
theorem rowS_add {c k1 k2 q : Nat} : (⟨(rowL c k1 k2 q).toArray⟩ : Str) ++ nx "\n" = rowS c k1 k2 q := by
  unfold rowS
  show (⟨(rowL c k1 k2 q).toArray ++ #[10]⟩ : Str) = _
  simp
theorem rowL_len {c k1 k2 q : Nat} : (rowL c k1 k2 q).length ≤ 8 := by
  unfold rowL esc
  split
  · simp
  · simp only [List.length_cons, List.length_append]
    split <;> split <;> (try split) <;> (try split) <;> simp
theorem rowsL_len (k1 k2 q : Nat → Nat) : (rowsL k1 k2 q).length ≤ 54 := by
  unfold rowsL
  simp only [List.length_append, List.length_cons, List.length_nil]
  have h0 := @rowL_len 97 (k1 0) (k2 0) (q 0)
  have h1 := @rowL_len 98 (k1 1) (k2 1) (q 1)
  have h2 := @rowL_len 99 (k1 2) (k2 2) (q 2)
  have h3 := @rowL_len 100 (k1 3) (k2 3) (q 3)
  have h4 := @rowL_len 101 (k1 4) (k2 4) (q 4)
  have h5 := @rowL_len 102 (k1 5) (k2 5) (q 5)
  omega
theorem join6 (L0 L1 L2 L3 L4 L5 : List Nat) : PySem.Txt.join (nx "") [⟨L0.toArray⟩, ⟨L1.toArray⟩, ⟨L2.toArray⟩, ⟨L3.toArray⟩, ⟨L4.toArray⟩, ⟨L5.toArray⟩] = ⟨(L0 ++ L1 ++ L2 ++ L3 ++ L4 ++ L5).toArray⟩ := by
  show (⟨((((((L0.toArray ++ #[] ++ L1.toArray) ++ #[] ++ L2.toArray) ++ #[] ++ L3.toArray) ++ #[] ++ L4.toArray) ++ #[] ++ L5.toArray))⟩ : Str) = _
  simp
theorem joinOk6 (L0 L1 L2 L3 L4 L5 : List Nat) (h : L0.length + L1.length + L2.length + L3.length + L4.length + L5.length ≤ 4096) : PySem.JoinOk (nx "") [⟨L0.toArray⟩, ⟨L1.toArray⟩, ⟨L2.toArray⟩, ⟨L3.toArray⟩, ⟨L4.toArray⟩, ⟨L5.toArray⟩] = true := by
  show (!(decide (0 + L0.toArray.size + 0 + L1.toArray.size + 0 + L2.toArray.size + 0 + L3.toArray.size + 0 + L4.toArray.size + 0 + L5.toArray.size + 0 > sizeLine))) = true
  rw [sizeLine_eq]
  simp; omega
theorem row_fits {H : List AO} {c k1 k2 q : Nat} : addA H (.str ⟨(rowL c k1 k2 q).toArray⟩) (.str (nx "\n")) = some (.str (rowS c k1 k2 q), H) := by
  rw [addA_str, rowS_add]
  have := @rowL_len c k1 k2 q
  show (rowL c k1 k2 q).toArray.size + 1 ≤ 4096
  simp; omega
theorem join_rows {z : Nat → AO} {d : Nat → Int} {k1 k2 q : Nat → Nat} : joinK (tS6 z d k1 k2 q).hp [.str (nx ""), .obj 7] [] = some (.str ⟨(rowsL k1 k2 q).toArray⟩, (tS6 z d k1 k2 q).hp) := by
  show (if PySem.JoinOk (nx "") [rowS 97 (k1 0) (k2 0) (q 0), rowS 98 (k1 1) (k2 1) (q 1), rowS 99 (k1 2) (k2 2) (q 2), rowS 100 (k1 3) (k2 3) (q 3), rowS 101 (k1 4) (k2 4) (q 4), rowS 102 (k1 5) (k2 5) (q 5)] = true then some (AV.str (PySem.Txt.join (nx "") [rowS 97 (k1 0) (k2 0) (q 0), rowS 98 (k1 1) (k2 1) (q 1), rowS 99 (k1 2) (k2 2) (q 2), rowS 100 (k1 3) (k2 3) (q 3), rowS 101 (k1 4) (k2 4) (q 4), rowS 102 (k1 5) (k2 5) (q 5)]), (tS6 z d k1 k2 q).hp) else none) = _
  have hl := rowsL_len k1 k2 q
  unfold rowsL at hl
  simp only [List.length_append] at hl
  unfold rowS
  rw [if_pos (joinOk6 _ _ _ _ _ _ (by simp only [List.length_append]; omega)), join6]
  rfl
set_option maxHeartbeats 4000000 in
theorem ev_text0 (P : Txt G mg mb mn mh script) (z : Nat → AO) (d : Nat → Int) (k1 k2 q : Nat → Nat) (hN : ∀ i, Num (d i) (k1 i) (k2 i) (q i)) :
    (B_text P n []).1 ⟨[z 0, z 1, z 2, z 3, z 4, z 5, .list [.int (d 0), .int (d 1), .int (d 2), .int (d 3), .int (d 4), .int (d 5)]], [(nx "numbers", .obj 6)]⟩ = some (.ret (.tup [.str (text k1 k2 q), .obj 16]), tE z d k1 k2 q) := by
  unfold B_text
  dsimp only
  refine D.next (S₁ := tS0 z d k1 k2 q) (by kernel_rfl) ?_
  refine D.next (S₁ := tS6 z d k1 k2 q) ?_ ?_
  · refine D.for (src := .zip (.seq ((List.map chrA [97, 98, 99, 100, 101, 102]))) (.list 6 0)) (S₁ := tS0 z d k1 k2 q) (by kernel_rfl) (by kernel_rfl) ?_
    refine D.loop (v := .tup [.str ⟨#[97]⟩, .int (d 0)]) (src' := .zip (.seq (List.map chrA [98, 99, 100, 101, 102])) (.list 6 1)) (S₁ := tA0 z d k1 k2 q) (S₂ := tS1 z d k1 k2 q) (by kernel_rfl) (by kernel_rfl) ?_ ?_
    · refine D.next (S₁ := tB0 z d k1 k2 q) ?_ ?_
      · refine D.asg (S₁ := tA0 z d k1 k2 q) (v := .str (word (k1 0) (k2 0))) ?_ (by kernel_rfl)
        refine D.two (S₁ := tA0 z d k1 k2 q) (S₂ := tA0 z d k1 k2 q) (a := .str ⟨#[sg (k1 0)]⟩) (b := .str ⟨#[sg (k2 0)]⟩) (H := (tA0 z d k1 k2 q).hp) ?_ ?_ (by kernel_rfl)
        · refine D.two (S₁ := tA0 z d k1 k2 q) (S₂ := tA0 z d k1 k2 q) (a := .str sgnS) (b := .int (((d 0).fmod 25).fdiv 5)) (H := (tA0 z d k1 k2 q).hp) (by kernel_rfl) (by kernel_rfl) (item_sg (hN 0).h1 (hN 0).e1)
        · refine D.two (S₁ := tA0 z d k1 k2 q) (S₂ := tA0 z d k1 k2 q) (a := .str sgnS) (b := .int ((d 0).fmod 5)) (H := (tA0 z d k1 k2 q).hp) (by kernel_rfl) (by kernel_rfl) (item_sg (hN 0).h2 (hN 0).e2)
      · refine D.next (S₁ := tC0 z d k1 k2 q) ?_ (by kernel_rfl)
        refine D.expr (D.meth (S₀ := tB0 z d k1 k2 q) (S₁ := tB0 z d k1 k2 q) (S₂ := tB0 z d k1 k2 q) (a := .obj 7) (as := [.str (rowS 97 (k1 0) (k2 0) (q 0))]) (ks := []) (H := (tC0 z d k1 k2 q).hp) (v := .c .none) (by kernel_rfl) (by kernel_rfl) ?_ rfl (by kernel_rfl))
        refine D.cons (S₁ := tB0 z d k1 k2 q) ?_ rfl
        refine D.two (S₁ := tB0 z d k1 k2 q) (S₂ := tB0 z d k1 k2 q) (a := .str ⟨(rowL 97 (k1 0) (k2 0) (q 0)).toArray⟩) (b := .str (nx "\n")) (H := (tB0 z d k1 k2 q).hp) ?_ (by kernel_rfl) row_fits
        refine D.call (S₁ := tB0 z d k1 k2 q) (S₂ := tB0 z d k1 k2 q) (as := [.str ⟨#[97]⟩, .str (word (k1 0) (k2 0)), .int (((d 0).fdiv 25).fmod 2)]) (ks := []) (by kernel_rfl) (by kernel_rfl) rfl ?_
        rw [(hN 0).e3]
        exact ev_fmt P _ 97 _ _ _ (hN 0).h1 (hN 0).h2 (hN 0).h3
    refine D.loop (v := .tup [.str ⟨#[98]⟩, .int (d 1)]) (src' := .zip (.seq (List.map chrA [99, 100, 101, 102])) (.list 6 2)) (S₁ := tA1 z d k1 k2 q) (S₂ := tS2 z d k1 k2 q) (by kernel_rfl) (by kernel_rfl) ?_ ?_
    · refine D.next (S₁ := tB1 z d k1 k2 q) ?_ ?_
      · refine D.asg (S₁ := tA1 z d k1 k2 q) (v := .str (word (k1 1) (k2 1))) ?_ (by kernel_rfl)
        refine D.two (S₁ := tA1 z d k1 k2 q) (S₂ := tA1 z d k1 k2 q) (a := .str ⟨#[sg (k1 1)]⟩) (b := .str ⟨#[sg (k2 1)]⟩) (H := (tA1 z d k1 k2 q).hp) ?_ ?_ (by kernel_rfl)
        · refine D.two (S₁ := tA1 z d k1 k2 q) (S₂ := tA1 z d k1 k2 q) (a := .str sgnS) (b := .int (((d 1).fmod 25).fdiv 5)) (H := (tA1 z d k1 k2 q).hp) (by kernel_rfl) (by kernel_rfl) (item_sg (hN 1).h1 (hN 1).e1)
        · refine D.two (S₁ := tA1 z d k1 k2 q) (S₂ := tA1 z d k1 k2 q) (a := .str sgnS) (b := .int ((d 1).fmod 5)) (H := (tA1 z d k1 k2 q).hp) (by kernel_rfl) (by kernel_rfl) (item_sg (hN 1).h2 (hN 1).e2)
      · refine D.next (S₁ := tC1 z d k1 k2 q) ?_ (by kernel_rfl)
        refine D.expr (D.meth (S₀ := tB1 z d k1 k2 q) (S₁ := tB1 z d k1 k2 q) (S₂ := tB1 z d k1 k2 q) (a := .obj 7) (as := [.str (rowS 98 (k1 1) (k2 1) (q 1))]) (ks := []) (H := (tC1 z d k1 k2 q).hp) (v := .c .none) (by kernel_rfl) (by kernel_rfl) ?_ rfl (by kernel_rfl))
        refine D.cons (S₁ := tB1 z d k1 k2 q) ?_ rfl
        refine D.two (S₁ := tB1 z d k1 k2 q) (S₂ := tB1 z d k1 k2 q) (a := .str ⟨(rowL 98 (k1 1) (k2 1) (q 1)).toArray⟩) (b := .str (nx "\n")) (H := (tB1 z d k1 k2 q).hp) ?_ (by kernel_rfl) row_fits
        refine D.call (S₁ := tB1 z d k1 k2 q) (S₂ := tB1 z d k1 k2 q) (as := [.str ⟨#[98]⟩, .str (word (k1 1) (k2 1)), .int (((d 1).fdiv 25).fmod 2)]) (ks := []) (by kernel_rfl) (by kernel_rfl) rfl ?_
        rw [(hN 1).e3]
        exact ev_fmt P _ 98 _ _ _ (hN 1).h1 (hN 1).h2 (hN 1).h3
    refine D.loop (v := .tup [.str ⟨#[99]⟩, .int (d 2)]) (src' := .zip (.seq (List.map chrA [100, 101, 102])) (.list 6 3)) (S₁ := tA2 z d k1 k2 q) (S₂ := tS3 z d k1 k2 q) (by kernel_rfl) (by kernel_rfl) ?_ ?_
    · refine D.next (S₁ := tB2 z d k1 k2 q) ?_ ?_
      · refine D.asg (S₁ := tA2 z d k1 k2 q) (v := .str (word (k1 2) (k2 2))) ?_ (by kernel_rfl)
        refine D.two (S₁ := tA2 z d k1 k2 q) (S₂ := tA2 z d k1 k2 q) (a := .str ⟨#[sg (k1 2)]⟩) (b := .str ⟨#[sg (k2 2)]⟩) (H := (tA2 z d k1 k2 q).hp) ?_ ?_ (by kernel_rfl)
        · refine D.two (S₁ := tA2 z d k1 k2 q) (S₂ := tA2 z d k1 k2 q) (a := .str sgnS) (b := .int (((d 2).fmod 25).fdiv 5)) (H := (tA2 z d k1 k2 q).hp) (by kernel_rfl) (by kernel_rfl) (item_sg (hN 2).h1 (hN 2).e1)
        · refine D.two (S₁ := tA2 z d k1 k2 q) (S₂ := tA2 z d k1 k2 q) (a := .str sgnS) (b := .int ((d 2).fmod 5)) (H := (tA2 z d k1 k2 q).hp) (by kernel_rfl) (by kernel_rfl) (item_sg (hN 2).h2 (hN 2).e2)
      · refine D.next (S₁ := tC2 z d k1 k2 q) ?_ (by kernel_rfl)
        refine D.expr (D.meth (S₀ := tB2 z d k1 k2 q) (S₁ := tB2 z d k1 k2 q) (S₂ := tB2 z d k1 k2 q) (a := .obj 7) (as := [.str (rowS 99 (k1 2) (k2 2) (q 2))]) (ks := []) (H := (tC2 z d k1 k2 q).hp) (v := .c .none) (by kernel_rfl) (by kernel_rfl) ?_ rfl (by kernel_rfl))
        refine D.cons (S₁ := tB2 z d k1 k2 q) ?_ rfl
        refine D.two (S₁ := tB2 z d k1 k2 q) (S₂ := tB2 z d k1 k2 q) (a := .str ⟨(rowL 99 (k1 2) (k2 2) (q 2)).toArray⟩) (b := .str (nx "\n")) (H := (tB2 z d k1 k2 q).hp) ?_ (by kernel_rfl) row_fits
        refine D.call (S₁ := tB2 z d k1 k2 q) (S₂ := tB2 z d k1 k2 q) (as := [.str ⟨#[99]⟩, .str (word (k1 2) (k2 2)), .int (((d 2).fdiv 25).fmod 2)]) (ks := []) (by kernel_rfl) (by kernel_rfl) rfl ?_
        rw [(hN 2).e3]
        exact ev_fmt P _ 99 _ _ _ (hN 2).h1 (hN 2).h2 (hN 2).h3
    refine D.loop (v := .tup [.str ⟨#[100]⟩, .int (d 3)]) (src' := .zip (.seq (List.map chrA [101, 102])) (.list 6 4)) (S₁ := tA3 z d k1 k2 q) (S₂ := tS4 z d k1 k2 q) (by kernel_rfl) (by kernel_rfl) ?_ ?_
    · refine D.next (S₁ := tB3 z d k1 k2 q) ?_ ?_
      · refine D.asg (S₁ := tA3 z d k1 k2 q) (v := .str (word (k1 3) (k2 3))) ?_ (by kernel_rfl)
        refine D.two (S₁ := tA3 z d k1 k2 q) (S₂ := tA3 z d k1 k2 q) (a := .str ⟨#[sg (k1 3)]⟩) (b := .str ⟨#[sg (k2 3)]⟩) (H := (tA3 z d k1 k2 q).hp) ?_ ?_ (by kernel_rfl)
        · refine D.two (S₁ := tA3 z d k1 k2 q) (S₂ := tA3 z d k1 k2 q) (a := .str sgnS) (b := .int (((d 3).fmod 25).fdiv 5)) (H := (tA3 z d k1 k2 q).hp) (by kernel_rfl) (by kernel_rfl) (item_sg (hN 3).h1 (hN 3).e1)
        · refine D.two (S₁ := tA3 z d k1 k2 q) (S₂ := tA3 z d k1 k2 q) (a := .str sgnS) (b := .int ((d 3).fmod 5)) (H := (tA3 z d k1 k2 q).hp) (by kernel_rfl) (by kernel_rfl) (item_sg (hN 3).h2 (hN 3).e2)
      · refine D.next (S₁ := tC3 z d k1 k2 q) ?_ (by kernel_rfl)
        refine D.expr (D.meth (S₀ := tB3 z d k1 k2 q) (S₁ := tB3 z d k1 k2 q) (S₂ := tB3 z d k1 k2 q) (a := .obj 7) (as := [.str (rowS 100 (k1 3) (k2 3) (q 3))]) (ks := []) (H := (tC3 z d k1 k2 q).hp) (v := .c .none) (by kernel_rfl) (by kernel_rfl) ?_ rfl (by kernel_rfl))
        refine D.cons (S₁ := tB3 z d k1 k2 q) ?_ rfl
        refine D.two (S₁ := tB3 z d k1 k2 q) (S₂ := tB3 z d k1 k2 q) (a := .str ⟨(rowL 100 (k1 3) (k2 3) (q 3)).toArray⟩) (b := .str (nx "\n")) (H := (tB3 z d k1 k2 q).hp) ?_ (by kernel_rfl) row_fits
        refine D.call (S₁ := tB3 z d k1 k2 q) (S₂ := tB3 z d k1 k2 q) (as := [.str ⟨#[100]⟩, .str (word (k1 3) (k2 3)), .int (((d 3).fdiv 25).fmod 2)]) (ks := []) (by kernel_rfl) (by kernel_rfl) rfl ?_
        rw [(hN 3).e3]
        exact ev_fmt P _ 100 _ _ _ (hN 3).h1 (hN 3).h2 (hN 3).h3
    refine D.loop (v := .tup [.str ⟨#[101]⟩, .int (d 4)]) (src' := .zip (.seq (List.map chrA [102])) (.list 6 5)) (S₁ := tA4 z d k1 k2 q) (S₂ := tS5 z d k1 k2 q) (by kernel_rfl) (by kernel_rfl) ?_ ?_
    · refine D.next (S₁ := tB4 z d k1 k2 q) ?_ ?_
      · refine D.asg (S₁ := tA4 z d k1 k2 q) (v := .str (word (k1 4) (k2 4))) ?_ (by kernel_rfl)
        refine D.two (S₁ := tA4 z d k1 k2 q) (S₂ := tA4 z d k1 k2 q) (a := .str ⟨#[sg (k1 4)]⟩) (b := .str ⟨#[sg (k2 4)]⟩) (H := (tA4 z d k1 k2 q).hp) ?_ ?_ (by kernel_rfl)
        · refine D.two (S₁ := tA4 z d k1 k2 q) (S₂ := tA4 z d k1 k2 q) (a := .str sgnS) (b := .int (((d 4).fmod 25).fdiv 5)) (H := (tA4 z d k1 k2 q).hp) (by kernel_rfl) (by kernel_rfl) (item_sg (hN 4).h1 (hN 4).e1)
        · refine D.two (S₁ := tA4 z d k1 k2 q) (S₂ := tA4 z d k1 k2 q) (a := .str sgnS) (b := .int ((d 4).fmod 5)) (H := (tA4 z d k1 k2 q).hp) (by kernel_rfl) (by kernel_rfl) (item_sg (hN 4).h2 (hN 4).e2)
      · refine D.next (S₁ := tC4 z d k1 k2 q) ?_ (by kernel_rfl)
        refine D.expr (D.meth (S₀ := tB4 z d k1 k2 q) (S₁ := tB4 z d k1 k2 q) (S₂ := tB4 z d k1 k2 q) (a := .obj 7) (as := [.str (rowS 101 (k1 4) (k2 4) (q 4))]) (ks := []) (H := (tC4 z d k1 k2 q).hp) (v := .c .none) (by kernel_rfl) (by kernel_rfl) ?_ rfl (by kernel_rfl))
        refine D.cons (S₁ := tB4 z d k1 k2 q) ?_ rfl
        refine D.two (S₁ := tB4 z d k1 k2 q) (S₂ := tB4 z d k1 k2 q) (a := .str ⟨(rowL 101 (k1 4) (k2 4) (q 4)).toArray⟩) (b := .str (nx "\n")) (H := (tB4 z d k1 k2 q).hp) ?_ (by kernel_rfl) row_fits
        refine D.call (S₁ := tB4 z d k1 k2 q) (S₂ := tB4 z d k1 k2 q) (as := [.str ⟨#[101]⟩, .str (word (k1 4) (k2 4)), .int (((d 4).fdiv 25).fmod 2)]) (ks := []) (by kernel_rfl) (by kernel_rfl) rfl ?_
        rw [(hN 4).e3]
        exact ev_fmt P _ 101 _ _ _ (hN 4).h1 (hN 4).h2 (hN 4).h3
    refine D.loop (v := .tup [.str ⟨#[102]⟩, .int (d 5)]) (src' := .zip (.seq (List.map chrA [])) (.list 6 6)) (S₁ := tA5 z d k1 k2 q) (S₂ := tS6 z d k1 k2 q) (by kernel_rfl) (by kernel_rfl) ?_ ?_
    · refine D.next (S₁ := tB5 z d k1 k2 q) ?_ ?_
      · refine D.asg (S₁ := tA5 z d k1 k2 q) (v := .str (word (k1 5) (k2 5))) ?_ (by kernel_rfl)
        refine D.two (S₁ := tA5 z d k1 k2 q) (S₂ := tA5 z d k1 k2 q) (a := .str ⟨#[sg (k1 5)]⟩) (b := .str ⟨#[sg (k2 5)]⟩) (H := (tA5 z d k1 k2 q).hp) ?_ ?_ (by kernel_rfl)
        · refine D.two (S₁ := tA5 z d k1 k2 q) (S₂ := tA5 z d k1 k2 q) (a := .str sgnS) (b := .int (((d 5).fmod 25).fdiv 5)) (H := (tA5 z d k1 k2 q).hp) (by kernel_rfl) (by kernel_rfl) (item_sg (hN 5).h1 (hN 5).e1)
        · refine D.two (S₁ := tA5 z d k1 k2 q) (S₂ := tA5 z d k1 k2 q) (a := .str sgnS) (b := .int ((d 5).fmod 5)) (H := (tA5 z d k1 k2 q).hp) (by kernel_rfl) (by kernel_rfl) (item_sg (hN 5).h2 (hN 5).e2)
      · refine D.next (S₁ := tC5 z d k1 k2 q) ?_ (by kernel_rfl)
        refine D.expr (D.meth (S₀ := tB5 z d k1 k2 q) (S₁ := tB5 z d k1 k2 q) (S₂ := tB5 z d k1 k2 q) (a := .obj 7) (as := [.str (rowS 102 (k1 5) (k2 5) (q 5))]) (ks := []) (H := (tC5 z d k1 k2 q).hp) (v := .c .none) (by kernel_rfl) (by kernel_rfl) ?_ rfl (by kernel_rfl))
        refine D.cons (S₁ := tB5 z d k1 k2 q) ?_ rfl
        refine D.two (S₁ := tB5 z d k1 k2 q) (S₂ := tB5 z d k1 k2 q) (a := .str ⟨(rowL 102 (k1 5) (k2 5) (q 5)).toArray⟩) (b := .str (nx "\n")) (H := (tB5 z d k1 k2 q).hp) ?_ (by kernel_rfl) row_fits
        refine D.call (S₁ := tB5 z d k1 k2 q) (S₂ := tB5 z d k1 k2 q) (as := [.str ⟨#[102]⟩, .str (word (k1 5) (k2 5)), .int (((d 5).fdiv 25).fmod 2)]) (ks := []) (by kernel_rfl) (by kernel_rfl) rfl ?_
        rw [(hN 5).e3]
        exact ev_fmt P _ 102 _ _ _ (hN 5).h1 (hN 5).h2 (hN 5).h3
    exact D.done (by kernel_rfl) rfl
  · refine D.stop (D.ret (D.shr (l := [.str (text k1 k2 q), .obj 16]) (S₁ := tE z d k1 k2 q) ?_ (by simp)))
    refine D.cons (S₁ := tS6 z d k1 k2 q) (v := .str (text k1 k2 q)) (l := [.obj 16]) (S₂ := tE z d k1 k2 q) ?_ (by kernel_rfl)
    refine D.two (S₁ := tS6 z d k1 k2 q) (S₂ := tS6 z d k1 k2 q) (a := .str ⟨(rowsL k1 k2 q).toArray⟩) (b := .str (nx "abcdef\n")) (H := (tS6 z d k1 k2 q).hp) ?_ (by kernel_rfl) ?_
    · refine D.meth (S₀ := tS6 z d k1 k2 q) (S₁ := tS6 z d k1 k2 q) (S₂ := tS6 z d k1 k2 q) (a := .str (nx "")) (as := [.obj 7]) (ks := []) (H := (tS6 z d k1 k2 q).hp) (by kernel_rfl) (by kernel_rfl) (by kernel_rfl) rfl ?_
      exact join_rows
    · rw [addA_str]
      · show some (AV.str ⟨(rowsL k1 k2 q).toArray ++ #[97, 98, 99, 100, 101, 102, 10]⟩, _) = some (AV.str ⟨(rowsL k1 k2 q ++ [97, 98, 99, 100, 101, 102, 10]).toArray⟩, _)
        simp
      · show (rowsL k1 k2 q).toArray.size + 7 ≤ 4096
        have := rowsL_len k1 k2 q
        simp; omega
theorem ev_text (P : Txt G mg mb mn mh script) (z : Nat → AO) (d : Nat → Int) (k1 k2 q : Nat → Nat) (hN : ∀ i, Num (d i) (k1 i) (k2 i) (q i)) :
    F_text P n [z 0, z 1, z 2, z 3, z 4, z 5, .list [.int (d 0), .int (d 1), .int (d 2), .int (d 3), .int (d 4), .int (d 5)]] [.obj 6] [] = some (.tup [.str (text k1 k2 q), .obj 16], (tE z d k1 k2 q).hp) := by
  unfold F_text
  apply D.fn
  · rfl
  · rfl
  · exact ev_text0 P z d k1 k2 q hN
  · rfl
end
end Mine
end
section
open PySem PySem.W PyProof.Rows
set_option Elab.async false
set_option maxRecDepth 100000
set_option linter.all false
set_option autoImplicit false
namespace Mine
theorem or_some {α : Type} {x y : Option α} {a : α} (h : x = some a) : x.or y = some a := by rw [h]; rfl
namespace D
variable {mg mb : Names} {fr : Fm}
theorem own {C : Addr} {name : Str} {sh : FnSh} {F : List (Str × Nat) → FnT} {Fo : St → Option (AV × St)} {Fa : St → Option (List AV × St)} {S S₁ S₂ : St} {a v : AV} {as : List AV} {i ci : Nat} {cs : List (Str × Nat)} {H H' : List AO} (h1 : Fo S = some (a, S₁)) (h2 : attrF C name S₁.hp a = some (.obj i, H)) (h3 : Fa ⟨H, S₁.loc⟩ = some (as, S₂))
    (h4 : S₂.hp[i]? = some (.fn sh cs ci)) (h5 : S₂.hp[ci]? = some (.crec sh.qual)) (h6 : F cs S₂.hp as [] = some (v, H')) : ownCallF C name sh F Fo Fa S = some (v, ⟨H', S₂.loc⟩) := by
  exact thenI h1 (thenI h2 (bindI rfl (thenI h3 (bindI h4 (bindI rfl ((if_pos rfl).trans (bindI h5 (bindI rfl ((if_pos rfl).trans (thenI h6 rfl))))))))))
theorem slice {kl : Addr → Option (List AV)} {Fv : St → Option (AV × St)} {Fl Fu Ft : St → Option (Option Int × St)} {S S₁ S₂ S₃ S₄ : St} {a v : AV} {lo hi st : Option Int} {H : List AO} (h1 : Fv S = some (a, S₁)) (h2 : Fl S₁ = some (lo, S₂)) (h3 : Fu S₂ = some (hi, S₃)) (h4 : Ft S₃ = some (st, S₄)) (h5 : sliceA kl S₄.hp a lo hi st = some (v, H)) :
    sliceF kl Fv Fl Fu Ft S = some (v, ⟨H, S₄.loc⟩) := by
  exact thenI h1 (thenI h2 (thenI h3 (thenI h4 (by rw [h5]; rfl))))
theorem intp {F : St → Option (AV × St)} {S S₁ : St} {i : Int} (h : F S = some (.int i, S₁)) : intP F S = some (some i, S₁) := thenI h rfl
end D
section
variable {G : Glob} {n : Nat} {mg mb mn mh : Names} {script : List Int}
noncomputable def zt (z : Nat → AO) : Nat → AO
  | 0 => .tab 288 false
  | i + 1 => z (i + 1)
theorem ev_lexer (P : Txt G mg mb mn mh script) (z : Nat → AO) (x : Str) : F_lexer P n [.tab 288 true, z 1, z 2, z 3, z 4, z 5, z 6, z 7, z 8, z 9, z 10, z 11, z 12, z 13, z 14, z 15, z 16] [.str x] [] = some (.obj 26, LX mg (zt z) x 1 [] []) := by kernel_rfl
/-- the sign at a place, or none -/
noncomputable def ch (cs : List Nat) (p : Nat) : Str := ⟨((cs.drop p).take 1).toArray⟩
theorem cut1 (cs : List Nat) (p : Nat) (h : p ≤ cs.length) : cutS ⟨cs.toArray⟩ (some (p : Int)) (some ((p : Int) + 1)) = ch cs p := by
  have hl : (⟨cs.toArray⟩ : Str).length = cs.length := by show cs.toArray.size = _; simp
  unfold cutS Builtin.Str.strSliceIndices
  rw [hl]
  have e1 : (if (p : Int) < 0 then (p : Int) + (cs.length : Int) else (p : Int)) = p := if_neg (by omega)
  have e2 : (if (p : Int) + 1 < 0 then (p : Int) + 1 + (cs.length : Int) else (p : Int) + 1) = p + 1 := if_neg (by omega)
  simp only [e1, e2, show ((1 : Int) > 0) = True from by simp, if_true]
  by_cases q : p < cs.length
  · have m1 : max (0 : Int) (min (p : Int) (cs.length : Int)) = p := by omega
    have m2 : max (0 : Int) (min ((p : Int) + 1) (cs.length : Int)) = p + 1 := by omega
    rw [m1, m2]
    have sr : sliceRange (p : Int) ((p : Int) + 1) 1 = [p] := by
      unfold sliceRange
      have c1 : (if (1 : Int) > 0 then (if (p : Int) < (p : Int) + 1 then ((p : Int) + 1 - (p : Int) + 1 - 1) / 1 else 0) else (if (p : Int) > (p : Int) + 1 then ((p : Int) - ((p : Int) + 1) - 1 - 1) / (-1) else 0)) = 1 := by
        rw [if_pos (by decide), if_pos (by omega)]; omega
      simp only [c1]
      simp
    rw [sr]
    have hd : cs.drop p = cs[p] :: cs.drop (p + 1) := List.drop_eq_getElem_cons q
    by_cases hn : cs.length = 1
    · obtain ⟨c, rfl⟩ : ∃ c, cs = [c] := List.length_eq_one_iff.mp hn
      have : p = 0 := by simp at q; omega
      subst this
      rfl
    · rw [if_neg (by simp; omega)]
      have e3 : List.filterMap (fun x => (⟨cs.toArray⟩ : Str).cps[x]?) [p] = [cs[p]] := by simp [q]
      rw [e3]
      show (⟨[cs[p]].toArray⟩ : Str) = ⟨(List.take 1 (List.drop p cs)).toArray⟩
      rw [hd]; rfl
  · have hp : p = cs.length := by omega
    have m1 : max (0 : Int) (min (p : Int) (cs.length : Int)) = p := by omega
    have m2 : max (0 : Int) (min ((p : Int) + 1) (cs.length : Int)) = p := by omega
    rw [m1, m2]
    have sr : sliceRange (p : Int) (p : Int) 1 = [] := by
      unfold sliceRange
      have c1 : (if (1 : Int) > 0 then (if (p : Int) < (p : Int) then ((p : Int) - (p : Int) + 1 - 1) / 1 else 0) else (if (p : Int) > (p : Int) then ((p : Int) - (p : Int) - 1 - 1) / (-1) else 0)) = 0 := by
        rw [if_pos (by decide), if_neg (by omega)]
      simp only [c1]
      rfl
    rw [sr]
    by_cases hn : cs.length = 0
    · have : cs = [] := List.length_eq_zero_iff.mp hn
      subst this
      have : p = 0 := by omega
      subst this
      rfl
    · rw [if_neg (by simp; omega)]
      unfold ch
      rw [hp, List.drop_length]
      rfl
/-- the lexer's state: the text, how much of it is gone, what waits -/
noncomputable def lnAt (cs : List Nat) (p : Nat) : Int := 1 + ((cs.take p).count 10 : Nat)
noncomputable def LXp (mg : Names) (z : Nat → AO) (cs : List Nat) (p : Nat) (pb : List AV) : List AO := LX mg z ⟨cs.toArray⟩ (lnAt cs p) ((cs.take p).map chrA) pb
noncomputable def pcs : List (Str × Nat) := [(Str.ofString "text", 17), (Str.ofString "gone", 18)]
theorem LX_len {mg : Names} {z : Nat → AO} {x : Str} {ln : Int} {gone pb : List AV} {T : List AO} : (LX mg z x ln gone pb ++ T).length = 28 + T.length := by
  simp [LX]; omega
theorem LX_get {mg : Names} {z : Nat → AO} {x : Str} {ln : Int} {gone pb : List AV} {T : List AO} (i : Nat) : (LX mg z x ln gone pb ++ T)[28 + i]? = T[i]? := by
  rw [List.getElem?_append_right (by simp [LX])]
  simp [LX]
theorem ch_ascii {cs : List Nat} (h : cs.all (· < 128) = true) (p : Nat) : (ch cs p).cps.all (· < 128) = true := by
  unfold ch
  show ((cs.drop p).take 1).toArray.all (fun a => decide (a < 128)) = true
  rw [List.all_toArray, List.all_eq_true]
  intro x hx
  exact List.all_eq_true.mp h x (List.mem_of_mem_drop (List.mem_of_mem_take hx))
theorem ch_list {cs : List Nat} {p : Nat} : (ch cs p).cps.toList.map chrA = ((cs.drop p).take 1).map chrA := by unfold ch; simp
theorem ch_len {cs : List Nat} {p : Nat} : (ch cs p).length ≤ 1 := by
  show (((cs.drop p).take 1).toArray).size ≤ 1
  simp; omega
theorem take_grow (cs : List Nat) (p : Nat) : cs.take p ++ (cs.drop p).take 1 = cs.take (p + 1) := by
  rw [List.take_add]
theorem ev_piece (P : Txt G mg mb mn mh script) (z : Nat → AO) (cs : List Nat) (p : Nat) (ln : Int) (pb : List AV) (T : List AO) (hp : p ≤ cs.length) (hz : cs.length ≤ 1000) (ha : cs.all (· < 128) = true) :
    F_piece P n pcs (LX mg z ⟨cs.toArray⟩ ln ((cs.take p).map chrA) pb ++ T) [.int 1] [] = some (.str (ch cs p), LX mg z ⟨cs.toArray⟩ ln ((cs.take (p + 1)).map chrA) pb ++ T) := by
  unfold F_piece
  have hgl : ((cs.take p).map chrA).length = p := by simp; omega
  have hx : (⟨cs.toArray⟩ : Str).length ≤ 4096 := by show cs.toArray.size ≤ 4096; simp; omega
  let S0 : St := ⟨LX mg z ⟨cs.toArray⟩ ln ((cs.take p).map chrA) pb ++ T, [(Str.ofString "count", .int 1)]⟩
  let S1 : St := ⟨LX mg z ⟨cs.toArray⟩ ln ((cs.take p).map chrA) pb ++ T, [(Str.ofString "count", .int 1), (Str.ofString "piece", .str (ch cs p))]⟩
  let S2 : St := ⟨LX mg z ⟨cs.toArray⟩ ln ((cs.take (p + 1)).map chrA) pb ++ T, [(Str.ofString "count", .int 1), (Str.ofString "piece", .str (ch cs p))]⟩
  have hlen : lenK (LX mg z ⟨cs.toArray⟩ ln ((cs.take p).map chrA) pb ++ T) [.obj 22] [] = some (.int (p : Nat), LX mg z ⟨cs.toArray⟩ ln ((cs.take p).map chrA) pb ++ T) := by
    show (if ((cs.take p).map chrA).length ≤ 4096 then some (AV.int ((cs.take p).map chrA).length, LX mg z ⟨cs.toArray⟩ ln ((cs.take p).map chrA) pb ++ T) else none) = _
    rw [hgl, if_pos (by omega)]
  have hslice : sliceA (fun a => if a = 349 then some (script.map .int) else none) (LX mg z ⟨cs.toArray⟩ ln ((cs.take p).map chrA) pb ++ T) (.str ⟨cs.toArray⟩) (some (p : Int)) (some ((p : Int) + 1)) none = some (.str (ch cs p), LX mg z ⟨cs.toArray⟩ ln ((cs.take p).map chrA) pb ++ T) := by
    refine or_some ?_
    show sliceS _ _ _ _ _ = _
    unfold sliceS
    rw [cut1 cs p hp, if_pos ⟨rfl, hx, Nat.le_trans ch_len (by decide)⟩]
  have hext : extendK (LX mg z ⟨cs.toArray⟩ ln ((cs.take p).map chrA) pb ++ T) [.obj 22, .str (ch cs p)] [] = some (.c .none, LX mg z ⟨cs.toArray⟩ ln ((cs.take (p + 1)).map chrA) pb ++ T) := by
    show (if ((cs.take p).map chrA).length + (ch cs p).cps.toList.length ≤ 4096 ∧ (ch cs p).cps.all (· < 128) then some (AV.c .none, (LX mg z ⟨cs.toArray⟩ ln ((cs.take p).map chrA) pb ++ T).set 22 (.list ((cs.take p).map chrA ++ (ch cs p).cps.toList.map chrA))) else none) = _
    have h1 : (ch cs p).cps.toList.length ≤ 1 := by have h : (ch cs p).cps.size ≤ 1 := @ch_len cs p; simpa using h
    rw [if_pos ⟨by rw [hgl]; omega, ch_ascii ha p⟩, ch_list, ← List.map_append, take_grow]
    rfl
  apply D.fn (S := S0) (S' := S2)
  · rfl
  · rfl
  · show (B_piece P n pcs).1 S0 = _
    unfold B_piece
    dsimp only
    refine D.next (S₁ := S1) ?_ ?_
    · refine D.asg (S₁ := S0) (v := .str (ch cs p)) ?_ (by kernel_rfl)
      refine D.slice (S₁ := S0) (S₂ := S0) (S₃ := S0) (S₄ := S0) (a := .str ⟨cs.toArray⟩) (lo := some (p : Int)) (hi := some ((p : Int) + 1)) (st := none) (H := S0.hp) (by kernel_rfl) ?_ ?_ (by kernel_rfl) hslice
      · exact D.intp (D.call (S₁ := S0) (S₂ := S0) (as := [.obj 22]) (ks := []) (by kernel_rfl) (by kernel_rfl) rfl hlen)
      · refine D.intp ?_
        refine D.two (S₁ := S0) (S₂ := S0) (a := .int (p : Nat)) (b := .int 1) (H := S0.hp) ?_ (by kernel_rfl) rfl
        exact D.call (S₁ := S0) (S₂ := S0) (as := [.obj 22]) (ks := []) (by kernel_rfl) (by kernel_rfl) rfl hlen
    · refine D.next (S₁ := S2) ?_ (by kernel_rfl)
      refine D.expr (D.meth (S₀ := S1) (S₁ := S1) (S₂ := S1) (a := .obj 22) (as := [.str (ch cs p)]) (ks := []) (H := S2.hp) (v := .c .none) (by kernel_rfl) (by kernel_rfl) (by kernel_rfl) rfl hext)
  · rfl
end
end Mine
end
section
open PySem PySem.W PyProof.Rows
set_option Elab.async false
set_option maxRecDepth 100000
set_option linter.all false
set_option autoImplicit false
namespace Mine
section
variable {G : Glob} {n : Nat} {mg mb mn mh : Names} {script : List Int}
theorem chr_eq (c d : Nat) : ((⟨#[c]⟩ : Str) == ⟨#[d]⟩) = (c == d) := by
  by_cases h : c = d
  · subst h; rw [beq_self_eq_true, beq_self_eq_true]
  · have h1 : (⟨#[c]⟩ : Str) ≠ ⟨#[d]⟩ := fun e => h (by injection e with e; injection e with e; injection e)
    rw [beq_eq_false_iff_ne.mpr h1, beq_eq_false_iff_ne.mpr h]
theorem ch_at {cs : List Nat} {p c : Nat} (h : cs[p]? = some c) : ch cs p = ⟨#[c]⟩ := by
  obtain ⟨hl, hc⟩ := List.getElem?_eq_some_iff.mp h
  unfold ch
  rw [List.drop_eq_getElem_cons hl, hc]
  rfl
theorem ch_over {cs : List Nat} {p : Nat} (h : cs.length ≤ p) : ch cs p = Str.empty := by
  unfold ch
  rw [List.drop_eq_nil_iff.mpr h]
  rfl
theorem ln_up {cs : List Nat} {p : Nat} (h : cs[p]? = some 10) : lnAt cs (p + 1) = lnAt cs p + 1 := by
  obtain ⟨hl, hc⟩ := List.getElem?_eq_some_iff.mp h
  unfold lnAt
  rw [List.take_succ, h]
  simp [List.count_append]
  omega
theorem ln_same {cs : List Nat} {p : Nat} (h : cs[p]? ≠ some 10) : lnAt cs (p + 1) = lnAt cs p := by
  unfold lnAt
  rw [List.take_succ]
  cases e : cs[p]? with
  | none => simp
  | some c =>
    have : c ≠ 10 := fun q => h (by rw [e, q])
    simp [List.count_append, this]
theorem ev_read (P : Txt G mg mb mn mh script) (z : Nat → AO) (cs : List Nat) (p : Nat) (pb : List AV) (T : List AO) (hp : p ≤ cs.length) (hz : cs.length ≤ 1000) (ha : cs.all (· < 128) = true) :
    F_read P n (LXp mg z cs p pb ++ T) [.obj 26] [] = some (.str (ch cs p), LXp mg z cs (p + 1) pb ++ T) := by
  unfold F_read
  let S0 : St := ⟨LXp mg z cs p pb ++ T, [(Str.ofString "self", .obj 26)]⟩
  let S1 : St := ⟨LX mg z ⟨cs.toArray⟩ (lnAt cs p) ((cs.take (p + 1)).map chrA) pb ++ T, [(Str.ofString "self", .obj 26), (Str.ofString "ch", .str (ch cs p))]⟩
  let S2 : St := ⟨LXp mg z cs (p + 1) pb ++ T, [(Str.ofString "self", .obj 26), (Str.ofString "ch", .str (ch cs p))]⟩
  apply D.fn (S := S0) (S' := S2)
  · rfl
  · rfl
  · unfold B_read
    dsimp only
    refine D.next (S₁ := S1) ?_ ?_
    · refine D.asg (S₁ := ⟨S1.hp, S0.loc⟩) (v := .str (ch cs p)) ?_ (by kernel_rfl)
      refine D.own (S₁ := S0) (S₂ := S0) (a := .obj 20) (as := [.int 1]) (i := 24) (ci := 23) (cs := pcs) (H := S0.hp) (by kernel_rfl) (by kernel_rfl) (by kernel_rfl) (by kernel_rfl) (by kernel_rfl) ?_
      exact ev_piece P z cs p (lnAt cs p) pb T hp hz ha
    · refine D.next (S₁ := S2) ?_ (by kernel_rfl)
      by_cases q : cs[p]? = some 10
      · refine D.tt (S₁ := S1) ?_ ?_
        · refine D.two (S₁ := S1) (S₂ := S1) (a := .str (ch cs p)) (b := .str (nx "\n")) (H := S1.hp) (by kernel_rfl) (by kernel_rfl) ?_
          rw [ch_at q]; rfl
        · show seqF _ _ S1 = some (.next, (⟨LX mg z ⟨cs.toArray⟩ (lnAt cs (p + 1)) ((cs.take (p + 1)).map chrA) pb ++ T, _⟩ : St))
          rw [ln_up q]
          kernel_rfl
      · refine D.ff (S₁ := S1) ?_ ?_
        · refine D.two (S₁ := S1) (S₂ := S1) (a := .str (ch cs p)) (b := .str (nx "\n")) (H := S1.hp) (by kernel_rfl) (by kernel_rfl) ?_
          show some (ch cs p == nx "\n", S1.hp) = _
          have : (ch cs p == nx "\n") = false := by
            by_cases l : p < cs.length
            · have e : cs[p]? = some cs[p] := List.getElem?_eq_getElem l
              rw [ch_at e]
              show ((⟨#[cs[p]]⟩ : Str) == ⟨#[10]⟩) = false
              rw [chr_eq]
              have : cs[p] ≠ 10 := fun z => q (by rw [e, z])
              simpa using this
            · rw [ch_over (by omega)]; rfl
          rw [this]
        · show some (AFl.next, S1) = some (.next, (⟨LX mg z ⟨cs.toArray⟩ (lnAt cs (p + 1)) ((cs.take (p + 1)).map chrA) pb ++ T, _⟩ : St))
          rw [ln_same q]
  · rfl
end
end Mine
end
section
open PySem PySem.W PyProof.Rows
set_option Elab.async false
set_option maxRecDepth 100000
set_option linter.all false
set_option autoImplicit false
namespace Mine
noncomputable def isWs (c : Nat) : Bool := c == 10 || c == 61
noncomputable def alpha : List Nat := [10, 34, 61, 65, 92, 97, 98, 99, 100, 101, 102]
noncomputable def lexQ : Nat → List Nat → List Nat → Nat → Option (List Nat × Nat)
  | 0, _, _, _ => none
  | _ + 1, [], _, _ => none
  | k + 1, c :: r, tk, p => if c = 34 then some (tk, p + 1) else if c = 92 then (match r with
    | c' :: r' => lexQ k r' (tk ++ [c']) (p + 2)
    | [] => none) else lexQ k r (tk ++ [c]) (p + 1)
noncomputable def lexU : Nat → List Nat → List Nat → Nat → Option (List Nat × Nat)
  | 0, _, _, _ => none
  | _ + 1, [], _, _ => none
  | k + 1, c :: r, tk, p => if isWs c = true then some (tk, p + 1) else if c = 92 then (match r with
    | c' :: r' => lexU k r' (tk ++ [c']) (p + 2)
    | [] => none) else lexU k r (tk ++ [c]) (p + 1)
noncomputable def lexO : Nat → List Nat → Nat → Option (List Nat × Nat)
  | 0, _, _ => none
  | _ + 1, [], p => some ([], p)
  | k + 1, c :: r, p => if isWs c = true then lexO k r (p + 1) else if c = 34 then lexQ 64 r [] (p + 1) else if c = 92 then (match r with
    | c' :: r' => lexU 64 r' [c'] (p + 2)
    | [] => none) else lexU 64 r [c] (p + 1)
theorem cit_item {F : FnT} {f : Value} {i : Nat} {Fa : AV → St → Option St} {Fb Fe : St → Option (AFl × St)} {k : Nat} {S S₁ : St} {y w : Str} {mi x : Nat} {H' : List AO} (hi : S.hp[i]? = some (.citer (some (y, mi)))) (hm : S.hp[mi]? = some (.meth f x)) (hF : F S.hp [.obj x] [] = some (.str w, H')) (hi' : H'[i]? = some (.citer (some (y, mi)))) (hne : w ≠ y) (hfa : Fa (.str w) ⟨H', S.loc⟩ = some S₁) {fl : AFl} {S₂ : St} {r : Option (AFl × St)} (hb : Fb S₁ = some (fl, S₂)) (hk : goOn fl (citF F f i Fa Fb Fe k S₂) S₂ = r) :
    citF F f i Fa Fb Fe (k + 1) S = r :=
  (citF_eq hi hm hF hi').trans ((if_neg hne).trans (bindI hfa (thenI hb hk)))
theorem cit_over {F : FnT} {f : Value} {i : Nat} {Fa : AV → St → Option St} {Fb Fe : St → Option (AFl × St)} {k : Nat} {S : St} {y : Str} {mi x : Nat} {H' : List AO} (hi : S.hp[i]? = some (.citer (some (y, mi)))) (hm : S.hp[mi]? = some (.meth f x)) (hF : F S.hp [.obj x] [] = some (.str y, H')) (hi' : H'[i]? = some (.citer (some (y, mi)))) (hm' : H'[mi]? = some (.meth f x)) :
    citF F f i Fa Fb Fe (k + 1) S = Fe ⟨H'.set i (.citer none), S.loc⟩ := by
  exact (citF_eq hi hm hF hi').trans ((if_pos rfl).trans (bindI (methAt_eq hm') (if_pos ⟨rfl, rfl⟩)))
noncomputable def lcT (j : Nat) (tk : List Nat) (c : Nat) : List (Str × AV) := [(Str.ofString "self", .obj 26), (Str.ofString "token", .str ⟨tk.toArray⟩), (Str.ofString "fiter", .obj (28 + j)), (Str.ofString "ch", .str ⟨#[c]⟩)]
section
variable {G : Glob} {n : Nat} {mg mb mn mh : Names} {script : List Int}
theorem drop_cons {cs r : List Nat} {p c : Nat} (h : cs.drop p = c :: r) : cs[p]? = some c ∧ cs.drop (p + 1) = r ∧ p < cs.length := by
  have hl : p < cs.length := by
    cases Nat.lt_or_ge p cs.length with
    | inl h => exact h
    | inr h' => rw [List.drop_eq_nil_iff.mpr h'] at h; cases h
  rw [List.drop_eq_getElem_cons hl] at h
  cases h
  exact ⟨List.getElem?_eq_getElem hl, rfl, hl⟩
/-- a loop over the signs, up to its end -/
theorem loopQ (P : Txt G mg mb mn mh script) (z : Nat → AO) {cs : List Nat} (hz : cs.length ≤ 1000) (ha : cs.all (· < 128) = true) (hal : ∀ c ∈ cs, c ∈ alpha) {T : List AO} {j m : Nat} (hj : T[j]? = some (.citer (some (Str.empty, 28 + m)))) (hm : T[m]? = some (.meth (.ref 66) 26))
    {Fa : AV → St → Option St} {Fb Fe : St → Option (AFl × St)} (stop : Nat → Bool) (hFa : ∀ hp tk c0 c, Fa (.str ⟨#[c]⟩) ⟨hp, lcT j tk c0⟩ = some ⟨hp, lcT j tk c⟩)
    (h1 : ∀ p tk c, c ∈ alpha → stop c = true → Fb ⟨LXp mg z cs p [] ++ T, lcT j tk c⟩ = some (.ret (.str ⟨tk.toArray⟩), ⟨LXp mg z cs p [] ++ T, lcT j tk c⟩))
    (h2 : ∀ p tk c', stop 92 = false → tk.length ≤ 1000 → cs[p]? = some c' → Fb ⟨LXp mg z cs p [] ++ T, lcT j tk 92⟩ = some (.next, ⟨LXp mg z cs (p + 1) [] ++ T, lcT j (tk ++ [c']) c'⟩))
    (h3 : ∀ p tk c, c ∈ alpha → stop c = false → c ≠ 92 → tk.length ≤ 1000 → Fb ⟨LXp mg z cs p [] ++ T, lcT j tk c⟩ = some (.next, ⟨LXp mg z cs p [] ++ T, lcT j (tk ++ [c]) c⟩))
    (lex : Nat → List Nat → List Nat → Nat → Option (List Nat × Nat)) (l0 : ∀ r tk p, lex 0 r tk p = none) (l1 : ∀ k tk p, lex (k + 1) [] tk p = none)
    (l2 : ∀ k c r tk p, lex (k + 1) (c :: r) tk p = if stop c = true then some (tk, p + 1) else if c = 92 then (match r with | c' :: r' => lex k r' (tk ++ [c']) (p + 2) | [] => none) else lex k r (tk ++ [c]) (p + 1)) :
    ∀ (k p : Nat) (tk : List Nat) (c0 : Nat) (tk' : List Nat) (p' : Nat), tk.length ≤ p → lex k (cs.drop p) tk p = some (tk', p') → ∃ S', citF (F_read P n) (.ref 66) (28 + j) Fa Fb Fe k ⟨LXp mg z cs p [] ++ T, lcT j tk c0⟩ = some (.ret (.str ⟨tk'.toArray⟩), S') ∧ S'.hp = LXp mg z cs p' [] ++ T := by
  intro k
  induction k with
  | zero => intro p tk c0 tk' p' htk h; rw [l0] at h; cases h
  | succ k ih =>
    intro p tk c0 tk' p' htk h
    cases hd : cs.drop p with
    | nil => rw [hd, l1] at h; cases h
    | cons c r =>
      obtain ⟨hc, hr, hl⟩ := drop_cons hd
      rw [hd, l2] at h
      have hca : c ∈ alpha := hal c (List.mem_of_getElem? hc)
      have hR := ev_read (n := n) P z cs p [] T (Nat.le_of_lt hl) hz ha
      rw [ch_at hc] at hR
      have gi : ∀ p, (LXp mg z cs p [] ++ T)[28 + j]? = some (.citer (some (Str.empty, 28 + m))) := fun p => (LX_get j).trans hj
      have gm : ∀ p, (LXp mg z cs p [] ++ T)[28 + m]? = some (.meth (.ref 66) 26) := fun p => (LX_get m).trans hm
      have hne : (⟨#[c]⟩ : Str) ≠ Str.empty := fun e => by injection e with e; have := congrArg Array.size e; cases this
      by_cases q : stop c = true
      · rw [if_pos q] at h
        cases h
        exact ⟨_, cit_item (S := ⟨LXp mg z cs p [] ++ T, lcT j tk c0⟩) (gi p) (gm p) hR (gi (p + 1)) hne (hFa _ tk c0 c) (h1 (p + 1) tk c hca q) rfl, rfl⟩
      · rw [if_neg q] at h
        have q' : stop c = false := by simpa using q
        by_cases q2 : c = 92
        · rw [if_pos q2] at h
          subst q2
          cases r with
          | nil => cases h
          | cons c' r' =>
            obtain ⟨hc', hr', hl'⟩ := drop_cons hr
            have h : lex k r' (tk ++ [c']) (p + 2) = some (tk', p') := h
            rw [← hr'] at h
            obtain ⟨S', e1, e2⟩ := ih (p + 1 + 1) (tk ++ [c']) c' tk' p' (by simp; omega) h
            exact ⟨S', cit_item (S := ⟨LXp mg z cs p [] ++ T, lcT j tk c0⟩) (gi p) (gm p) hR (gi (p + 1)) hne (hFa _ tk c0 92) (h2 (p + 1) tk c' q' (by omega) hc') e1, e2⟩
        · rw [if_neg q2] at h
          rw [← hr] at h
          obtain ⟨S', e1, e2⟩ := ih (p + 1) (tk ++ [c]) c tk' p' (by simp; omega) h
          exact ⟨S', cit_item (S := ⟨LXp mg z cs p [] ++ T, lcT j tk c0⟩) (gi p) (gm p) hR (gi (p + 1)) hne (hFa _ tk c0 c) (h3 (p + 1) tk c hca q' q2 (by omega)) e1, e2⟩
end
end Mine
end
section
open PySem PySem.W PyProof.Rows
set_option Elab.async false
set_option maxRecDepth 100000
set_option linter.all false
set_option autoImplicit false
namespace Mine
section
variable {G : Glob} {n : Nat} {mg mb mn mh : Names} {script : List Int}
theorem in_ws {H : List AO} {c : Nat} (h : c ∈ alpha) : inA H (.str ⟨#[c]⟩) (.str (nx "\n\t\r =")) = some (isWs c, H) := by
  simp only [alpha, List.mem_cons, List.not_mem_nil, or_false] at h
  rcases h with rfl | rfl | rfl | rfl | rfl | rfl | rfl | rfl | rfl | rfl | rfl <;> kernel_rfl
theorem eq_chr {H : List AO} {c d : Nat} : eqA H (.str ⟨#[c]⟩) (.str ⟨#[d]⟩) = some (c == d, H) := by
  show some ((⟨#[c]⟩ : Str) == ⟨#[d]⟩, H) = _
  rw [chr_eq]
theorem app_chr (tk : List Nat) (c : Nat) : (⟨tk.toArray⟩ : Str) ++ (⟨#[c]⟩ : Str) = ⟨(tk ++ [c]).toArray⟩ := by
  show (⟨tk.toArray ++ #[c]⟩ : Str) = _
  simp
theorem iadd_chr {H : List AO} {tk : List Nat} {c : Nat} (h : tk.length ≤ 1000) : iaddA H (.str ⟨tk.toArray⟩) (.str ⟨#[c]⟩) = some (.str ⟨(tk ++ [c]).toArray⟩, H) := by
  show (if (⟨tk.toArray⟩ : Str).length + (⟨#[c]⟩ : Str).length ≤ 4096 then some (AV.str ((⟨tk.toArray⟩ : Str) ++ ⟨#[c]⟩), H) else none) = _
  rw [if_pos, app_chr]
  show tk.toArray.size + 1 ≤ 4096
  simp; omega
theorem LXp_end {z : Nat → AO} {cs : List Nat} {p : Nat} {pb : List AV} (h : cs.length ≤ p) : LXp mg z cs (p + 1) pb = LXp mg z cs p pb := by
  unfold LXp
  rw [ln_same (by rw [List.getElem?_eq_none h]; simp), List.take_of_length_le h, List.take_of_length_le (by omega)]
theorem LX_set {z : Nat → AO} {x : Str} {ln : Int} {gone pb : List AV} {T : List AO} (j : Nat) (X : AO) : (LX mg z x ln gone pb ++ T).set (28 + j) X = LX mg z x ln gone pb ++ T.set j X := by
  rw [List.set_append_right _ _ (by simp [LX])]
  simp [LX]
namespace D
theorem forC {F : FnT} {f : Value} {Fi : St → Option (AV × St)} {Fa : AV → St → Option St} {Fb Fe : St → Option (AFl × St)} {k i : Nat} {S S₁ : St} {r : Option (AFl × St)} (h : Fi S = some (.obj i, S₁)) (h2 : citF F f i Fa Fb Fe k S₁ = r) : forCF F f Fi Fa Fb Fe k S = r := by
  exact thenI h (bindI rfl h2)
end D
theorem D.lift {F Fs : St → Option (AFl × St)} {S S₁ : St} (Q : Option (AFl × St) → Prop) (h : F S = some (.next, S₁)) (k : Q (Fs S₁)) : Q (seqF F Fs S) := by rw [show seqF F Fs S = Fs S₁ from D.next h rfl]; exact k
namespace X
noncomputable def R (v : AV) (H : List AO) (o : Option (AFl × St)) : Prop := ∃ S', o = some (.ret v, S') ∧ S'.hp = H
theorem next {F Fs : St → Option (AFl × St)} {S S₁ : St} {v : AV} {H : List AO} (h : F S = some (.next, S₁)) (k : R v H (Fs S₁)) : R v H (seqF F Fs S) := by
  obtain ⟨S', e, r⟩ := k; exact ⟨S', D.next h e, r⟩
theorem next2 {ι : Type} {F Fs : St → Option (AFl × St)} {S : St} {v : AV} {H : List AO} (Si : ι → St) (p : ι → Prop) (h : ∃ i, F S = some (.next, Si i) ∧ p i) (k : ∀ i, p i → R v H (Fs (Si i))) : R v H (seqF F Fs S) := by
  obtain ⟨i, e, hp⟩ := h
  exact next e (k i hp)
theorem stop {F Fs : St → Option (AFl × St)} {S : St} {v : AV} {H : List AO} (k : R v H (F S)) : R v H (seqF F Fs S) := by
  obtain ⟨S', e, r⟩ := k; exact ⟨S', D.stop e, r⟩
theorem tt {Fb : St → Option (Bool × St)} {Ft Fe : St → Option (AFl × St)} {S S₁ : St} {v : AV} {H : List AO} (h : Fb S = some (true, S₁)) (k : R v H (Ft S₁)) : R v H (test Fb Ft Fe S) := by
  obtain ⟨S', e, r⟩ := k; exact ⟨S', D.tt h e, r⟩
theorem ff {Fb : St → Option (Bool × St)} {Ft Fe : St → Option (AFl × St)} {S S₁ : St} {v : AV} {H : List AO} (h : Fb S = some (false, S₁)) (k : R v H (Fe S₁)) : R v H (test Fb Ft Fe S) := by
  obtain ⟨S', e, r⟩ := k; exact ⟨S', D.ff h e, r⟩
theorem forC {F : FnT} {f : Value} {Fi : St → Option (AV × St)} {Fa : AV → St → Option St} {Fb Fe : St → Option (AFl × St)} {k i : Nat} {S S₁ : St} {v : AV} {H : List AO} (h : Fi S = some (.obj i, S₁)) (q : ∃ S', citF F f i Fa Fb Fe k S₁ = some (.ret v, S') ∧ S'.hp = H) : R v H (forCF F f Fi Fa Fb Fe k S) := by
  obtain ⟨S', e, r⟩ := q; exact ⟨S', D.forC h e, r⟩
end X
/-- the outer loop: blanks are left out -/
theorem loopO (P : Txt G mg mb mn mh script) (z : Nat → AO) {cs : List Nat} (hz : cs.length ≤ 1000) (ha : cs.all (· < 128) = true) (hal : ∀ c ∈ cs, c ∈ alpha) {T : List AO} {j m : Nat} (hj : T[j]? = some (.citer (some (Str.empty, 28 + m)))) (hm : T[m]? = some (.meth (.ref 66) 26))
    {Fa : AV → St → Option St} {Fb : St → Option (AFl × St)} (good : List (Str × AV) → Prop) (hFa : ∀ hp l c, good l → Fa (.str ⟨#[c]⟩) ⟨hp, l⟩ = some ⟨hp, lcT j [] c⟩) (hg : ∀ c, good (lcT j [] c))
    (h1 : ∀ p c, c ∈ alpha → isWs c = true → Fb ⟨LXp mg z cs p [] ++ T, lcT j [] c⟩ = some (.cont, ⟨LXp mg z cs p [] ++ T, lcT j [] c⟩))
    (h2 : ∀ p c r tk p', c ∈ alpha → isWs c = false → cs[p]? = some c → cs.drop (p + 1) = r → (if c = 34 then lexQ 64 r [] (p + 1) else if c = 92 then (match r with | c' :: r' => lexU 64 r' [c'] (p + 2) | [] => none) else lexU 64 r [c] (p + 1)) = some (tk, p') →
      ∃ S', Fb ⟨LXp mg z cs (p + 1) [] ++ T, lcT j [] c⟩ = some (.ret (.str ⟨tk.toArray⟩), S') ∧ S'.hp = LXp mg z cs p' [] ++ T) :
    ∀ (k p : Nat) (l : List (Str × AV)) (tk : List Nat) (p' : Nat), p ≤ cs.length → good l → lexO k (cs.drop p) p = some (tk, p') →
      (∃ S', citF (F_read P n) (.ref 66) (28 + j) Fa Fb (fun S => some (.next, S)) k ⟨LXp mg z cs p [] ++ T, l⟩ = some (.ret (.str ⟨tk.toArray⟩), S') ∧ S'.hp = LXp mg z cs p' [] ++ T) ∨
      (tk = [] ∧ ∃ l', good l' ∧ citF (F_read P n) (.ref 66) (28 + j) Fa Fb (fun S => some (.next, S)) k ⟨LXp mg z cs p [] ++ T, l⟩ = some (.next, ⟨LXp mg z cs p' [] ++ T.set j (.citer none), l'⟩)) := by
  intro k
  induction k with
  | zero => intro p l tk p' hp hl h; cases h
  | succ k ih =>
    intro p l tk p' hp hl h
    have gi : ∀ p, (LXp mg z cs p [] ++ T)[28 + j]? = some (.citer (some (Str.empty, 28 + m))) := fun p => (LX_get j).trans hj
    have gm : ∀ p, (LXp mg z cs p [] ++ T)[28 + m]? = some (.meth (.ref 66) 26) := fun p => (LX_get m).trans hm
    have hR := ev_read (n := n) P z cs p [] T hp hz ha
    cases hd : cs.drop p with
    | nil =>
      rw [hd] at h
      cases h
      have hle : cs.length ≤ p := List.drop_eq_nil_iff.mp hd
      rw [ch_over hle] at hR
      right
      refine ⟨rfl, l, hl, ?_⟩
      rw [cit_over (S := ⟨LXp mg z cs p [] ++ T, l⟩) (gi p) (gm p) hR (gi (p + 1)) (gm (p + 1)), LXp_end hle]
      unfold LXp
      rw [LX_set]
    | cons c r =>
      obtain ⟨hc, hr, hlt⟩ := drop_cons hd
      rw [hd] at h
      have hca : c ∈ alpha := hal c (List.mem_of_getElem? hc)
      rw [ch_at hc] at hR
      have hne : (⟨#[c]⟩ : Str) ≠ Str.empty := fun e => by injection e with e; have := congrArg Array.size e; cases this
      simp only [lexO] at h
      by_cases q : isWs c = true
      · rw [if_pos q] at h
        rw [← hr] at h
        have go : ∀ {r : Option (AFl × St)}, citF (F_read P n) (.ref 66) (28 + j) Fa Fb (fun S => some (.next, S)) k ⟨LXp mg z cs (p + 1) [] ++ T, lcT j [] c⟩ = r → citF (F_read P n) (.ref 66) (28 + j) Fa Fb (fun S => some (.next, S)) (k + 1) ⟨LXp mg z cs p [] ++ T, l⟩ = r :=
          fun e => cit_item (S := ⟨LXp mg z cs p [] ++ T, l⟩) (gi p) (gm p) hR (gi (p + 1)) hne (hFa _ l c hl) (h1 (p + 1) c hca q) e
        rcases ih (p + 1) (lcT j [] c) tk p' (by omega) (hg c) h with ⟨S', e1, e2⟩ | ⟨e0, l', e1, e2⟩
        · exact .inl ⟨S', go e1, e2⟩
        · exact .inr ⟨e0, l', e1, go e2⟩
      · rw [if_neg q] at h
        obtain ⟨S', e1, e2⟩ := h2 p c r tk p' hca (by simpa using q) hc hr h
        exact .inl ⟨S', cit_item (S := ⟨LXp mg z cs p [] ++ T, l⟩) (gi p) (gm p) hR (gi (p + 1)) hne (hFa _ l c hl) e1 rfl, e2⟩
set_option maxHeartbeats 4000000 in
theorem ev_get (P : Txt G mg mb mn mh script) (z : Nat → AO) {cs : List Nat} (hz : cs.length ≤ 1000) (ha : cs.all (· < 128) = true) (hal : ∀ c ∈ cs, c ∈ alpha) (p : Nat) (hp : p ≤ cs.length) (T : List AO) (tk : List Nat) (p' : Nat) (h : lexO 64 (cs.drop p) p = some (tk, p')) :
    ∃ X, F_get P n (LXp mg z cs p [] ++ T) [.obj 26] [] = some (.str ⟨tk.toArray⟩, LXp mg z cs p' [] ++ (T ++ [.meth (.ref 66) 26, X])) := by
  let S0 : St := ⟨LXp mg z cs p [] ++ T, [(Str.ofString "self", .obj 26)]⟩
  let S1 : St := ⟨LXp mg z cs p [] ++ T, [(Str.ofString "self", .obj 26), (Str.ofString "token", .str Str.empty)]⟩
  let T2 : List AO := T ++ [.meth (.ref 66) 26, .citer (some (Str.empty, 28 + T.length))]
  let b0 : List (Str × AV) := [(Str.ofString "self", .obj 26), (Str.ofString "token", .str Str.empty), (Str.ofString "fiter", .obj (28 + (T.length + 1)))]
  let S2 : St := ⟨LXp mg z cs p [] ++ T2, b0⟩
  have hj : T2[T.length + 1]? = some (.citer (some (Str.empty, 28 + T.length))) := by
    show (T ++ _)[T.length + 1]? = _
    rw [List.getElem?_append_right (by omega)]; simp
  have hm : T2[T.length]? = some (.meth (.ref 66) 26) := by
    show (T ++ _)[T.length]? = _
    rw [List.getElem?_append_right (by omega)]; simp
  suffices hk : ∃ X S', (B_get P n []).1 S0 = some (.ret (.str ⟨tk.toArray⟩), S') ∧ S'.hp = LXp mg z cs p' [] ++ (T ++ [.meth (.ref 66) 26, X]) by
    obtain ⟨X, S', h1, h2⟩ := hk
    refine ⟨X, ?_⟩
    unfold F_get
    apply D.fn (S := S0) (S' := S')
    · rfl
    · rfl
    · exact h1
    · exact h2
  unfold B_get
  dsimp only
  have ws1 : ∀ q c (tk : List Nat) (T : List AO) (j : Nat), nameF (ovr mg mgL) (ovr mb mbL) ⟨(mth 5 2).2.2, []⟩ (Str.ofString "ch") ⟨LXp mg z cs q [] ++ T, lcT j tk c⟩ = some (.str ⟨#[c]⟩, ⟨LXp mg z cs q [] ++ T, lcT j tk c⟩) := fun q c tk T j => rfl
  have ws2 : ∀ q c (tk : List Nat) (T : List AO) (j : Nat), oneF (nameF (ovr mg mgL) (ovr mb mbL) ⟨(mth 5 2).2.2, []⟩ (Str.ofString "self")) (attrF 83 (Str.ofString "whitespace")) ⟨LXp mg z cs q [] ++ T, lcT j tk c⟩ = some (.str (nx "\n\t\r ="), ⟨LXp mg z cs q [] ++ T, lcT j tk c⟩) := fun q c tk T j => by kernel_rfl
  have rd : ∀ q c (tk : List Nat) (c' : Nat), cs[q]? = some c' → methF (nameF (ovr mg mgL) (ovr mb mbL) ⟨(mth 5 2).2.2, []⟩ (Str.ofString "self")) (isInst 83 (Str.ofString "_read_char")) (F_read P (n + 1)) (fun S => some ([], S)) (fun S => some ([], S)) [] ⟨LXp mg z cs q [] ++ T2, lcT (T.length + 1) tk c⟩ = some (.str ⟨#[c']⟩, ⟨LXp mg z cs (q + 1) [] ++ T2, lcT (T.length + 1) tk c⟩) := fun q c tk c' hc => by
    have hR := ev_read (n := n + 1) P z cs q [] T2 (Nat.le_of_lt (List.getElem?_eq_some_iff.mp hc).1) hz ha
    rw [ch_at hc] at hR
    exact D.meth (S₀ := ⟨LXp mg z cs q [] ++ T2, lcT (T.length + 1) tk c⟩) (S₁ := ⟨LXp mg z cs q [] ++ T2, lcT (T.length + 1) tk c⟩) (S₂ := ⟨LXp mg z cs q [] ++ T2, lcT (T.length + 1) tk c⟩) (a := .obj 26) (as := []) (ks := []) (by kernel_rfl) (by kernel_rfl) rfl rfl hR
  have lenX : (LXp mg z cs p [] ++ T).length = 28 + T.length := LX_len
  -- the two inner loops' bodies
  have aug1 : ∀ q c (tk : List Nat), tk.length ≤ 1000 → augF (nameF (ovr mg mgL) (ovr mb mbL) ⟨(mth 5 2).2.2, []⟩ (Str.ofString "token")) (nameF (ovr mg mgL) (ovr mb mbL) ⟨(mth 5 2).2.2, []⟩ (Str.ofString "ch")) iaddA (storeF ⟨(mth 5 2).2.2, []⟩ (Str.ofString "token")) ⟨LXp mg z cs q [] ++ T2, lcT (T.length + 1) tk c⟩ = some (.next, ⟨LXp mg z cs q [] ++ T2, lcT (T.length + 1) (tk ++ [c]) c⟩) := fun q c tk hl =>
    D.aug (D.two (S₁ := ⟨LXp mg z cs q [] ++ T2, lcT (T.length + 1) tk c⟩) (S₂ := ⟨LXp mg z cs q [] ++ T2, lcT (T.length + 1) tk c⟩) (a := .str ⟨tk.toArray⟩) (b := .str ⟨#[c]⟩) rfl rfl (iadd_chr hl)) rfl
  have eqQ : ∀ q c (tk : List Nat) (d : Nat) (x : Str), x = ⟨#[d]⟩ → Mine.two (nameF (ovr mg mgL) (ovr mb mbL) ⟨(mth 5 2).2.2, []⟩ (Str.ofString "ch")) (fun S => some (AV.str x, S)) eqA ⟨LXp mg z cs q [] ++ T2, lcT (T.length + 1) tk c⟩ = some (c == d, ⟨LXp mg z cs q [] ++ T2, lcT (T.length + 1) tk c⟩) := fun q c tk d x hx => by
    subst hx
    exact D.two (S₁ := ⟨LXp mg z cs q [] ++ T2, lcT (T.length + 1) tk c⟩) (S₂ := ⟨LXp mg z cs q [] ++ T2, lcT (T.length + 1) tk c⟩) (a := .str ⟨#[c]⟩) (b := .str ⟨#[d]⟩) rfl rfl eq_chr
  have wsE : ∀ q c (tk : List Nat), c ∈ alpha → Mine.two (nameF (ovr mg mgL) (ovr mb mbL) ⟨(mth 5 2).2.2, []⟩ (Str.ofString "ch")) (oneF (nameF (ovr mg mgL) (ovr mb mbL) ⟨(mth 5 2).2.2, []⟩ (Str.ofString "self")) (attrF 83 (Str.ofString "whitespace"))) inA ⟨LXp mg z cs q [] ++ T2, lcT (T.length + 1) tk c⟩ = some (isWs c, ⟨LXp mg z cs q [] ++ T2, lcT (T.length + 1) tk c⟩) := fun q c tk hc =>
    D.two (S₁ := ⟨LXp mg z cs q [] ++ T2, lcT (T.length + 1) tk c⟩) (S₂ := ⟨LXp mg z cs q [] ++ T2, lcT (T.length + 1) tk c⟩) (ws1 q c tk T2 _) (ws2 q c tk T2 _) (in_ws hc)
  have e34 : Str.ofString "\"" = ⟨#[34]⟩ := by kernel_rfl
  have e92 : Str.ofString "\\" = ⟨#[92]⟩ := by kernel_rfl
  have back : ∀ (o : Option (AFl × St)), X.R (.str ⟨tk.toArray⟩) (LXp mg z cs p' [] ++ T2) o → ∃ X S', o = some (.ret (.str ⟨tk.toArray⟩), S') ∧ S'.hp = LXp mg z cs p' [] ++ (T ++ [.meth (.ref 66) 26, X]) := fun o ⟨S', e, r⟩ => ⟨_, S', e, r⟩
  have fin : ∀ {Fa : AV → St → Option St} {Fb : St → Option (AFl × St)}, ((∃ S', citF (F_read P n) (.ref 66) (28 + (T.length + 1)) Fa Fb (fun S => some (.next, S)) 64 ⟨LXp mg z cs p [] ++ T2, b0⟩ = some (.ret (.str ⟨tk.toArray⟩), S') ∧ S'.hp = LXp mg z cs p' [] ++ T2) ∨
      (tk = [] ∧ ∃ l', (l' = b0 ∨ ∃ c, l' = lcT (T.length + 1) [] c) ∧ citF (F_read P n) (.ref 66) (28 + (T.length + 1)) Fa Fb (fun S => some (.next, S)) 64 ⟨LXp mg z cs p [] ++ T2, b0⟩ = some (.next, ⟨LXp mg z cs p' [] ++ T2.set (T.length + 1) (.citer none), l'⟩))) →
      ∃ X S', seqF (forCF (F_read P n) (.ref 66) (nameF (ovr mg mgL) (ovr mb mbL) ⟨(mth 5 2).2.2, []⟩ (Str.ofString "fiter")) Fa Fb (fun S => some (.next, S)) 64) (seqF (fun S => (nameF (ovr mg mgL) (ovr mb mbL) ⟨(mth 5 2).2.2, []⟩ (Str.ofString "token") S).map fun p => (.ret p.1, p.2)) fun S => some (.next, S)) S2 = some (.ret (.str ⟨tk.toArray⟩), S') ∧ S'.hp = LXp mg z cs p' [] ++ (T ++ [.meth (.ref 66) 26, X]) := by
    intro Fa Fb hh
    rcases hh with ⟨S', e, r⟩ | ⟨rfl, l', hl', e⟩
    · exact ⟨_, S', D.stop (D.forC rfl e), r⟩
    · have hs : T2.set (T.length + 1) (.citer none) = T ++ [.meth (.ref 66) 26, .citer none] := by
        show (T ++ _).set (T.length + 1) _ = _
        rw [List.set_append_right _ _ (by omega)]; simp
      rw [hs] at e
      refine ⟨.citer none, ⟨LXp mg z cs p' [] ++ (T ++ [.meth (.ref 66) 26, .citer none]), l'⟩, D.next (D.forC rfl e) (D.stop (D.ret ?_)), rfl⟩
      rcases hl' with rfl | ⟨c, rfl⟩ <;> rfl
  have bnd : boundF 83 (Str.ofString "_read_char") (.ref 66) (LXp mg z cs p [] ++ T) (.obj 26) = some (.obj (28 + T.length), LXp mg z cs p [] ++ T ++ [.meth (.ref 66) 26]) := by
    have : boundF 83 (Str.ofString "_read_char") (.ref 66) (LXp mg z cs p [] ++ T) (.obj 26) = some (.obj (LXp mg z cs p [] ++ T).length, LXp mg z cs p [] ++ T ++ [.meth (.ref 66) 26]) := by kernel_rfl
    rw [this, lenX]
  have itr : iterK (LXp mg z cs p [] ++ T ++ [.meth (.ref 66) 26]) [.obj (28 + T.length), .str Str.empty] [] = some (.obj (28 + (T.length + 1)), LXp mg z cs p [] ++ T2) := by
    have hg : (LXp mg z cs p [] ++ T ++ [AO.meth (.ref 66) 26])[28 + T.length]? = some (.meth (.ref 66) 26) := by
      rw [List.getElem?_append_right (by rw [lenX]; exact Nat.le_refl _), lenX]; simp
    refine bindI (methAt_eq hg) ?_
    rw [List.length_append, lenX, List.append_assoc, List.append_assoc]
    rfl
  refine D.lift (fun o => ∃ X S', o = some (.ret (.str ⟨tk.toArray⟩), S') ∧ S'.hp = LXp mg z cs p' [] ++ (T ++ [.meth (.ref 66) 26, X])) (S₁ := S0) (by kernel_rfl) ?_
  refine D.lift (fun o => ∃ X S', o = some (.ret (.str ⟨tk.toArray⟩), S') ∧ S'.hp = LXp mg z cs p' [] ++ (T ++ [.meth (.ref 66) 26, X])) (S₁ := S1) (by kernel_rfl) ?_
  refine D.lift (fun o => ∃ X S', o = some (.ret (.str ⟨tk.toArray⟩), S') ∧ S'.hp = LXp mg z cs p' [] ++ (T ++ [.meth (.ref 66) 26, X])) (S₁ := S2) ?_ ?_
  · refine D.asg (S₁ := ⟨S2.hp, S1.loc⟩) (v := .obj (28 + (T.length + 1))) ?_ (by kernel_rfl)
    exact D.call (S₁ := ⟨LXp mg z cs p [] ++ T ++ [.meth (.ref 66) 26], S1.loc⟩) (S₂ := ⟨LXp mg z cs p [] ++ T ++ [.meth (.ref 66) 26], S1.loc⟩) (as := [.obj (28 + T.length), .str Str.empty]) (ks := []) (by kernel_rfl)
      (D.cons (S₁ := ⟨LXp mg z cs p [] ++ T ++ [.meth (.ref 66) 26], S1.loc⟩) (v := .obj (28 + T.length)) (D.one (S₁ := S1) (a := .obj 26) (by kernel_rfl) bnd) rfl) rfl itr
  show ∃ X S', seqF (forCF _ _ _ _ _ _ _) _ S2 = _ ∧ _
  refine fin (loopO P z hz ha hal hj hm (fun l => l = b0 ∨ ∃ c, l = lcT (T.length + 1) [] c) ?_ (fun c => .inr ⟨c, rfl⟩) ?_ ?_ 64 p b0 tk p' hp (.inl rfl) h)
  · rintro hp l c (rfl | ⟨c0, rfl⟩) <;> rfl
  · intro q c hca hws
    exact D.cont (D.tt ((wsE q c [] hca).trans (by rw [hws])) (D.cont rfl))
  · intro q c r tk' p2 hca hws hc hr hlex
    refine X.next (S₁ := ⟨LXp mg z cs (q + 1) [] ++ T2, lcT (T.length + 1) [] c⟩) (D.ff ((wsE (q + 1) c [] hca).trans (by rw [hws])) rfl) ?_
    refine X.stop ?_
    have hq1 : q + 1 ≤ cs.length := (List.getElem?_eq_some_iff.mp hc).1
    by_cases c34 : c = 34
    · rw [if_pos c34] at hlex
      subst c34
      refine X.tt (S₁ := ⟨LXp mg z cs (q + 1) [] ++ T2, lcT (T.length + 1) [] 34⟩) (eqQ (q + 1) 34 [] 34 _ e34) (X.stop (X.forC rfl ?_))
      rw [← hr] at hlex
      refine loopQ P z hz ha hal hj hm (fun c => c == 34) (fun hp tk c0 c => rfl) ?_ ?_ ?_ lexQ (fun _ _ _ => rfl) (fun _ _ _ => rfl) (fun k c r tk p => ?_) 64 (q + 1) [] 34 tk' p2 (Nat.zero_le _) hlex
      · intro p tk c hca hs
        exact D.stop (D.tt ((eqQ p c tk 34 _ e34).trans (by rw [show (c == 34) = true from hs])) (D.stop (D.ret rfl)))
      · intro p tk c' _ htk hc'
        refine D.next (S₁ := ⟨LXp mg z cs (p + 1) [] ++ T2, lcT (T.length + 1) tk c'⟩) ?_ (D.next (aug1 (p + 1) c' tk htk) rfl)
        exact D.ff (eqQ p 92 tk 34 _ e34) (D.next (S₁ := ⟨LXp mg z cs (p + 1) [] ++ T2, lcT (T.length + 1) tk c'⟩) (D.tt (eqQ p 92 tk 92 _ e92) (D.next (S₁ := ⟨LXp mg z cs (p + 1) [] ++ T2, lcT (T.length + 1) tk c'⟩) (D.asg (rd p 92 tk c' hc') rfl) rfl)) rfl)
      · intro p tk c hca hs h92 htk
        refine D.next (S₁ := ⟨LXp mg z cs p [] ++ T2, lcT (T.length + 1) tk c⟩) ?_ (D.next (aug1 p c tk htk) rfl)
        exact D.ff ((eqQ p c tk 34 _ e34).trans (by rw [show (c == 34) = false from hs])) (D.next (D.ff ((eqQ p c tk 92 _ e92).trans (by rw [beq_eq_false_iff_ne.mpr h92])) rfl) rfl)
      · by_cases h : c = 34
        · simp [lexQ, h]
        · have h' : ¬ ((c == 34) = true) := by simpa using h
          rw [if_neg h']
          simp only [lexQ]
          rw [if_neg h]
    · rw [if_neg c34] at hlex
      refine X.ff (S₁ := ⟨LXp mg z cs (q + 1) [] ++ T2, lcT (T.length + 1) [] c⟩) ((eqQ (q + 1) c [] 34 _ e34).trans (by rw [beq_eq_false_iff_ne.mpr c34])) ?_
      refine X.next2 (fun qc : Nat × Nat => ⟨LXp mg z cs qc.1 [] ++ T2, lcT (T.length + 1) [] qc.2⟩) (fun qc => 1 ≤ qc.1 ∧ lexU 64 (cs.drop qc.1) [qc.2] qc.1 = some (tk', p2)) ?_ ?_
      · by_cases c92 : c = 92
        · rw [if_pos c92] at hlex
          subst c92
          cases r with
          | nil => cases hlex
          | cons c' r' =>
            dsimp only at hlex
            obtain ⟨hc', hr', hl'⟩ := drop_cons hr
            rw [← hr'] at hlex
            exact ⟨(q + 1 + 1, c'), D.tt (eqQ (q + 1) 92 [] 92 _ e92) (D.next (S₁ := ⟨LXp mg z cs (q + 1 + 1) [] ++ T2, lcT (T.length + 1) [] c'⟩) (D.asg (rd (q + 1) 92 [] c' hc') rfl) rfl), by simp, hlex⟩
        · rw [if_neg c92] at hlex
          rw [← hr] at hlex
          exact ⟨(q + 1, c), D.ff ((eqQ (q + 1) c [] 92 _ e92).trans (by rw [beq_eq_false_iff_ne.mpr c92])) rfl, by simp, hlex⟩
      · rintro ⟨q, c⟩ ⟨h1, hlex⟩
        dsimp only at h1 hlex ⊢
        refine X.next (S₁ := ⟨LXp mg z cs q [] ++ T2, lcT (T.length + 1) [c] c⟩) (aug1 q c [] (by simp)) (X.stop (X.forC rfl ?_))
        refine loopQ P z hz ha hal hj hm isWs (fun hp tk c0 c => rfl) ?_ ?_ ?_ lexU (fun _ _ _ => rfl) (fun _ _ _ => rfl) (fun k c r tk p => ?_) 64 q [c] c tk' p2 h1 hlex
        · intro p tk c hca hs
          exact D.stop (D.tt ((wsE p c tk hca).trans (by rw [hs])) (D.stop (D.ret rfl)))
        · intro p tk c' _ htk hc'
          refine D.next (S₁ := ⟨LXp mg z cs (p + 1) [] ++ T2, lcT (T.length + 1) tk c'⟩) ?_ (D.next (aug1 (p + 1) c' tk htk) rfl)
          exact D.ff (wsE p 92 tk (by decide)) (D.next (S₁ := ⟨LXp mg z cs (p + 1) [] ++ T2, lcT (T.length + 1) tk c'⟩) (D.tt (eqQ p 92 tk 92 _ e92) (D.next (S₁ := ⟨LXp mg z cs (p + 1) [] ++ T2, lcT (T.length + 1) tk c'⟩) (D.asg (rd p 92 tk c' hc') rfl) rfl)) rfl)
        · intro p tk c hca hs h92 htk
          refine D.next (S₁ := ⟨LXp mg z cs p [] ++ T2, lcT (T.length + 1) tk c⟩) ?_ (D.next (aug1 p c tk htk) rfl)
          exact D.ff ((wsE p c tk hca).trans (by rw [hs])) (D.next (D.ff ((eqQ p c tk 92 _ e92).trans (by rw [beq_eq_false_iff_ne.mpr h92])) rfl) rfl)
        · simp only [lexU]
end
end Mine
end
section
open PySem PySem.W PyProof.Rows
set_option Elab.async false
set_option maxRecDepth 100000
set_option linter.all false
set_option autoImplicit false
namespace Mine
/-- a word as it is written -/
noncomputable def wq (k1 k2 q : Nat) : List Nat := if plainQ k1 k2 q then [sg k1, sg k2] else 34 :: (esc (sg k1) ++ esc (sg k2) ++ [34])
theorem tok_letter (c : Nat) (hc : c ∈ [97, 98, 99, 100, 101, 102]) (k1 k2 q : Nat) (rest : List Nat) (p : Nat) : lexO 64 (rowL c k1 k2 q ++ 10 :: rest) p = some ([c], p + 2) ∧ lexO 64 (10 :: (rowL c k1 k2 q ++ 10 :: rest)) p = some ([c], p + 1 + 2) := by
  simp only [List.mem_cons, List.not_mem_nil, or_false] at hc
  rcases hc with rfl | rfl | rfl | rfl | rfl | rfl <;> exact ⟨by kernel_rfl, by kernel_rfl⟩
theorem tok_word (k1 k2 q : Nat) (h1 : k1 < 5) (h2 : k2 < 5) (h3 : q < 2) (rest : List Nat) (p : Nat) : ∃ m, lexO 64 (wq k1 k2 q ++ 10 :: rest) p = some (wordL k1 k2, p + m) ∧ m ≤ (wq k1 k2 q ++ 10 :: rest).length ∧ ((wq k1 k2 q ++ 10 :: rest).drop m = rest ∨ (wq k1 k2 q ++ 10 :: rest).drop m = 10 :: rest) := by
  match k1, k2, q, h1, h2, h3 with
  | 0, 0, 0, _, _, _ => exact ⟨6, by kernel_rfl, by simp [wq, plainQ, sg, esc], .inr (by kernel_rfl)⟩
  | 0, 0, 1, _, _, _ => exact ⟨6, by kernel_rfl, by simp [wq, plainQ, sg, esc], .inr (by kernel_rfl)⟩
  | 0, 1, 0, _, _, _ => exact ⟨5, by kernel_rfl, by simp [wq, plainQ, sg, esc], .inr (by kernel_rfl)⟩
  | 0, 1, 1, _, _, _ => exact ⟨5, by kernel_rfl, by simp [wq, plainQ, sg, esc], .inr (by kernel_rfl)⟩
  | 0, 2, 0, _, _, _ => exact ⟨5, by kernel_rfl, by simp [wq, plainQ, sg, esc], .inr (by kernel_rfl)⟩
  | 0, 2, 1, _, _, _ => exact ⟨5, by kernel_rfl, by simp [wq, plainQ, sg, esc], .inr (by kernel_rfl)⟩
  | 0, 3, 0, _, _, _ => exact ⟨6, by kernel_rfl, by simp [wq, plainQ, sg, esc], .inr (by kernel_rfl)⟩
  | 0, 3, 1, _, _, _ => exact ⟨6, by kernel_rfl, by simp [wq, plainQ, sg, esc], .inr (by kernel_rfl)⟩
  | 0, 4, 0, _, _, _ => exact ⟨5, by kernel_rfl, by simp [wq, plainQ, sg, esc], .inr (by kernel_rfl)⟩
  | 0, 4, 1, _, _, _ => exact ⟨5, by kernel_rfl, by simp [wq, plainQ, sg, esc], .inr (by kernel_rfl)⟩
  | 1, 0, 0, _, _, _ => exact ⟨5, by kernel_rfl, by simp [wq, plainQ, sg, esc], .inr (by kernel_rfl)⟩
  | 1, 0, 1, _, _, _ => exact ⟨5, by kernel_rfl, by simp [wq, plainQ, sg, esc], .inr (by kernel_rfl)⟩
  | 1, 1, 0, _, _, _ => exact ⟨4, by kernel_rfl, by simp [wq, plainQ, sg, esc], .inr (by kernel_rfl)⟩
  | 1, 1, 1, _, _, _ => exact ⟨4, by kernel_rfl, by simp [wq, plainQ, sg, esc], .inr (by kernel_rfl)⟩
  | 1, 2, 0, _, _, _ => exact ⟨4, by kernel_rfl, by simp [wq, plainQ, sg, esc], .inr (by kernel_rfl)⟩
  | 1, 2, 1, _, _, _ => exact ⟨4, by kernel_rfl, by simp [wq, plainQ, sg, esc], .inr (by kernel_rfl)⟩
  | 1, 3, 0, _, _, _ => exact ⟨5, by kernel_rfl, by simp [wq, plainQ, sg, esc], .inr (by kernel_rfl)⟩
  | 1, 3, 1, _, _, _ => exact ⟨5, by kernel_rfl, by simp [wq, plainQ, sg, esc], .inr (by kernel_rfl)⟩
  | 1, 4, 0, _, _, _ => exact ⟨4, by kernel_rfl, by simp [wq, plainQ, sg, esc], .inr (by kernel_rfl)⟩
  | 1, 4, 1, _, _, _ => exact ⟨4, by kernel_rfl, by simp [wq, plainQ, sg, esc], .inr (by kernel_rfl)⟩
  | 2, 0, 0, _, _, _ => exact ⟨5, by kernel_rfl, by simp [wq, plainQ, sg, esc], .inr (by kernel_rfl)⟩
  | 2, 0, 1, _, _, _ => exact ⟨5, by kernel_rfl, by simp [wq, plainQ, sg, esc], .inr (by kernel_rfl)⟩
  | 2, 1, 0, _, _, _ => exact ⟨4, by kernel_rfl, by simp [wq, plainQ, sg, esc], .inr (by kernel_rfl)⟩
  | 2, 1, 1, _, _, _ => exact ⟨4, by kernel_rfl, by simp [wq, plainQ, sg, esc], .inr (by kernel_rfl)⟩
  | 2, 2, 0, _, _, _ => exact ⟨3, by kernel_rfl, by simp [wq, plainQ], .inl (by kernel_rfl)⟩
  | 2, 2, 1, _, _, _ => exact ⟨4, by kernel_rfl, by simp [wq, plainQ, sg, esc], .inr (by kernel_rfl)⟩
  | 2, 3, 0, _, _, _ => exact ⟨5, by kernel_rfl, by simp [wq, plainQ, sg, esc], .inr (by kernel_rfl)⟩
  | 2, 3, 1, _, _, _ => exact ⟨5, by kernel_rfl, by simp [wq, plainQ, sg, esc], .inr (by kernel_rfl)⟩
  | 2, 4, 0, _, _, _ => exact ⟨3, by kernel_rfl, by simp [wq, plainQ], .inl (by kernel_rfl)⟩
  | 2, 4, 1, _, _, _ => exact ⟨4, by kernel_rfl, by simp [wq, plainQ, sg, esc], .inr (by kernel_rfl)⟩
  | 3, 0, 0, _, _, _ => exact ⟨6, by kernel_rfl, by simp [wq, plainQ, sg, esc], .inr (by kernel_rfl)⟩
  | 3, 0, 1, _, _, _ => exact ⟨6, by kernel_rfl, by simp [wq, plainQ, sg, esc], .inr (by kernel_rfl)⟩
  | 3, 1, 0, _, _, _ => exact ⟨5, by kernel_rfl, by simp [wq, plainQ, sg, esc], .inr (by kernel_rfl)⟩
  | 3, 1, 1, _, _, _ => exact ⟨5, by kernel_rfl, by simp [wq, plainQ, sg, esc], .inr (by kernel_rfl)⟩
  | 3, 2, 0, _, _, _ => exact ⟨5, by kernel_rfl, by simp [wq, plainQ, sg, esc], .inr (by kernel_rfl)⟩
  | 3, 2, 1, _, _, _ => exact ⟨5, by kernel_rfl, by simp [wq, plainQ, sg, esc], .inr (by kernel_rfl)⟩
  | 3, 3, 0, _, _, _ => exact ⟨6, by kernel_rfl, by simp [wq, plainQ, sg, esc], .inr (by kernel_rfl)⟩
  | 3, 3, 1, _, _, _ => exact ⟨6, by kernel_rfl, by simp [wq, plainQ, sg, esc], .inr (by kernel_rfl)⟩
  | 3, 4, 0, _, _, _ => exact ⟨5, by kernel_rfl, by simp [wq, plainQ, sg, esc], .inr (by kernel_rfl)⟩
  | 3, 4, 1, _, _, _ => exact ⟨5, by kernel_rfl, by simp [wq, plainQ, sg, esc], .inr (by kernel_rfl)⟩
  | 4, 0, 0, _, _, _ => exact ⟨5, by kernel_rfl, by simp [wq, plainQ, sg, esc], .inr (by kernel_rfl)⟩
  | 4, 0, 1, _, _, _ => exact ⟨5, by kernel_rfl, by simp [wq, plainQ, sg, esc], .inr (by kernel_rfl)⟩
  | 4, 1, 0, _, _, _ => exact ⟨4, by kernel_rfl, by simp [wq, plainQ, sg, esc], .inr (by kernel_rfl)⟩
  | 4, 1, 1, _, _, _ => exact ⟨4, by kernel_rfl, by simp [wq, plainQ, sg, esc], .inr (by kernel_rfl)⟩
  | 4, 2, 0, _, _, _ => exact ⟨3, by kernel_rfl, by simp [wq, plainQ], .inl (by kernel_rfl)⟩
  | 4, 2, 1, _, _, _ => exact ⟨4, by kernel_rfl, by simp [wq, plainQ, sg, esc], .inr (by kernel_rfl)⟩
  | 4, 3, 0, _, _, _ => exact ⟨5, by kernel_rfl, by simp [wq, plainQ, sg, esc], .inr (by kernel_rfl)⟩
  | 4, 3, 1, _, _, _ => exact ⟨5, by kernel_rfl, by simp [wq, plainQ, sg, esc], .inr (by kernel_rfl)⟩
  | 4, 4, 0, _, _, _ => exact ⟨3, by kernel_rfl, by simp [wq, plainQ], .inl (by kernel_rfl)⟩
  | 4, 4, 1, _, _, _ => exact ⟨4, by kernel_rfl, by simp [wq, plainQ, sg, esc], .inr (by kernel_rfl)⟩
  | _ + 5, _, _, h, _, _ => omega
  | _, _ + 5, _, _, h, _ => omega
  | _, _, _ + 2, _, _, h => omega
theorem tok_last (p : Nat) : lexO 64 [97, 98, 99, 100, 101, 102, 10] p = some ([97, 98, 99, 100, 101, 102], p + 7) ∧ lexO 64 [10, 97, 98, 99, 100, 101, 102, 10] p = some ([97, 98, 99, 100, 101, 102], p + 1 + 7) := ⟨by kernel_rfl, by kernel_rfl⟩
inductive Toks (cs : List Nat) : Nat → List (List Nat) → Nat → Prop
  | nil {p : Nat} : Toks cs p [] p
  | cons {p p' p'' : Nat} {tk : List Nat} {l : List (List Nat)} : p ≤ cs.length → lexO 64 (cs.drop p) p = some (tk, p') → Toks cs p' l p'' → Toks cs p (tk :: l) p''
theorem rowL_wq {c k1 k2 q : Nat} : rowL c k1 k2 q = c :: 61 :: wq k1 k2 q := rfl
theorem drop_add {cs r : List Nat} {p : Nat} (h : cs.drop p = r) (m : Nat) : cs.drop (p + m) = r.drop m := by rw [← h, List.drop_drop]
theorem drop_le {cs r : List Nat} {p : Nat} (hp : p ≤ cs.length) (h : cs.drop p = r) (m : Nat) (hm : m ≤ r.length) : p + m ≤ cs.length := by
  have : r.length = cs.length - p := by rw [← h]; simp
  omega
/-- one row: a letter and its word -/
theorem toks_row {cs rest : List Nat} {c k1 k2 q p : Nat} (hc : c ∈ [97, 98, 99, 100, 101, 102]) (h1 : k1 < 5) (h2 : k2 < 5) (h3 : q < 2) (hp : p ≤ cs.length) (h : cs.drop p = rowL c k1 k2 q ++ 10 :: rest ∨ cs.drop p = 10 :: (rowL c k1 k2 q ++ 10 :: rest)) {l : List (List Nat)} {p'' : Nat}
    (k : ∀ p', p' ≤ cs.length → (cs.drop p' = rest ∨ cs.drop p' = 10 :: rest) → ∃ p'', Toks cs p' l p'' ∧ p'' ≤ cs.length ∧ cs.drop p'' = []) : ∃ p'', Toks cs p ([c] :: wordL k1 k2 :: l) p'' ∧ p'' ≤ cs.length ∧ cs.drop p'' = [] := by
  have word : ∀ p, p ≤ cs.length → cs.drop p = wq k1 k2 q ++ 10 :: rest → ∃ p'', Toks cs p (wordL k1 k2 :: l) p'' ∧ p'' ≤ cs.length ∧ cs.drop p'' = [] := by
    intro p hp hd
    obtain ⟨m, e1, e2, e3⟩ := tok_word k1 k2 q h1 h2 h3 rest p
    rw [← hd] at e1
    obtain ⟨p'', t, r⟩ := k (p + m) (drop_le hp hd m e2) (by rw [drop_add hd m]; exact e3)
    exact ⟨p'', .cons hp e1 t, r⟩
  obtain ⟨t1, t2⟩ := tok_letter c hc k1 k2 q rest p
  rcases h with h | h
  · rw [← h] at t1
    obtain ⟨p'', t, r⟩ := word (p + 2) (drop_le hp h 2 (by simp [rowL_wq])) (by rw [drop_add h 2, rowL_wq]; rfl)
    exact ⟨p'', .cons hp t1 t, r⟩
  · rw [← h] at t2
    obtain ⟨p'', t, r⟩ := word (p + 1 + 2) (by have := drop_le hp h 3 (by simp [rowL_wq]); omega) (by rw [show p + 1 + 2 = p + 3 by omega, drop_add h 3, rowL_wq]; rfl)
    exact ⟨p'', .cons hp t2 t, r⟩
noncomputable def csL (k1 k2 q : Nat → Nat) : List Nat := rowsL k1 k2 q ++ [97, 98, 99, 100, 101, 102, 10]
noncomputable def toksL (k1 k2 : Nat → Nat) : List (List Nat) := [[97], wordL (k1 0) (k2 0), [98], wordL (k1 1) (k2 1), [99], wordL (k1 2) (k2 2), [100], wordL (k1 3) (k2 3), [101], wordL (k1 4) (k2 4), [102], wordL (k1 5) (k2 5), [97, 98, 99, 100, 101, 102], []]
theorem toks_all (k1 k2 q : Nat → Nat) (hk1 : ∀ i, k1 i < 5) (hk2 : ∀ i, k2 i < 5) (hq : ∀ i, q i < 2) : ∃ p'', Toks (csL k1 k2 q) 0 (toksL k1 k2) p'' ∧ p'' ≤ (csL k1 k2 q).length ∧ (csL k1 k2 q).drop p'' = [] := by
  have e : csL k1 k2 q = rowL 97 (k1 0) (k2 0) (q 0) ++ 10 :: (rowL 98 (k1 1) (k2 1) (q 1) ++ 10 :: (rowL 99 (k1 2) (k2 2) (q 2) ++ 10 :: (rowL 100 (k1 3) (k2 3) (q 3) ++ 10 :: (rowL 101 (k1 4) (k2 4) (q 4) ++ 10 :: (rowL 102 (k1 5) (k2 5) (q 5) ++ 10 :: [97, 98, 99, 100, 101, 102, 10]))))) := by
    unfold csL rowsL; simp
  generalize hcs : csL k1 k2 q = cs at e
  unfold toksL
  refine toks_row (p'' := 0) (by decide) (hk1 0) (hk2 0) (hq 0) (Nat.zero_le _) (.inl (by rw [List.drop_zero]; exact e)) fun p hp h => ?_
  refine toks_row (p'' := 0) (by decide) (hk1 1) (hk2 1) (hq 1) hp h fun p hp h => ?_
  refine toks_row (p'' := 0) (by decide) (hk1 2) (hk2 2) (hq 2) hp h fun p hp h => ?_
  refine toks_row (p'' := 0) (by decide) (hk1 3) (hk2 3) (hq 3) hp h fun p hp h => ?_
  refine toks_row (p'' := 0) (by decide) (hk1 4) (hk2 4) (hq 4) hp h fun p hp h => ?_
  refine toks_row (p'' := 0) (by decide) (hk1 5) (hk2 5) (hq 5) hp h fun p hp h => ?_
  have fin : ∀ p, p ≤ cs.length → cs.drop p = [] → ∃ p'', Toks cs p [[]] p'' ∧ p'' ≤ cs.length ∧ cs.drop p'' = [] := fun p hp h => ⟨p, .cons hp (by rw [h]; rfl) .nil, hp, h⟩
  obtain ⟨t1, t2⟩ := tok_last p
  rcases h with h | h
  · rw [← h] at t1
    obtain ⟨p'', t, r⟩ := fin (p + 7) (drop_le hp h 7 (by simp)) (by rw [drop_add h 7]; rfl)
    exact ⟨p'', .cons hp t1 t, r⟩
  · rw [← h] at t2
    obtain ⟨p'', t, r⟩ := fin (p + 1 + 7) (by have := drop_le hp h 8 (by simp); omega) (by rw [show p + 1 + 7 = p + 8 by omega, drop_add h 8]; rfl)
    exact ⟨p'', .cons hp t2 t, r⟩
theorem sg_alpha (k : Nat) : sg k ∈ alpha := by unfold sg alpha; split <;> simp
theorem esc_alpha {x : Nat} (h : x ∈ alpha) : ∀ c ∈ esc x, c ∈ alpha := by
  unfold esc
  split
  · intro c hc; simp at hc; subst hc; decide
  · split
    · intro c hc; simp at hc; rcases hc with rfl | rfl <;> decide
    · intro c hc; simp at hc; subst hc; exact h
theorem rowL_alpha {c k1 k2 q : Nat} (hc : c ∈ alpha) : ∀ x ∈ rowL c k1 k2 q, x ∈ alpha := by
  intro x hx
  unfold rowL at hx
  rcases List.mem_cons.mp hx with rfl | hx
  · exact hc
  rcases List.mem_cons.mp hx with rfl | hx
  · decide
  split at hx
  · simp at hx; rcases hx with rfl | rfl <;> exact sg_alpha _
  · rcases List.mem_cons.mp hx with rfl | hx
    · decide
    simp only [List.mem_append, List.mem_singleton] at hx
    rcases hx with (hx | hx) | rfl
    · exact esc_alpha (sg_alpha _) x hx
    · exact esc_alpha (sg_alpha _) x hx
    · decide
theorem row_alpha {c k1 k2 q : Nat} (hc : c ∈ alpha) : ∀ x ∈ rowL c k1 k2 q ++ [10], x ∈ alpha := List.forall_mem_append.mpr ⟨rowL_alpha hc, by decide⟩
theorem cs_alpha (k1 k2 q : Nat → Nat) : ∀ c ∈ csL k1 k2 q, c ∈ alpha := by
  unfold csL rowsL
  have ap : ∀ {a b : List Nat}, (∀ x ∈ a, x ∈ alpha) → (∀ x ∈ b, x ∈ alpha) → ∀ x ∈ a ++ b, x ∈ alpha := fun h k => List.forall_mem_append.mpr ⟨h, k⟩
  exact ap (ap (ap (ap (ap (ap (row_alpha (by decide)) (row_alpha (by decide))) (row_alpha (by decide))) (row_alpha (by decide))) (row_alpha (by decide))) (row_alpha (by decide))) (by decide)
theorem cs_ascii (k1 k2 q : Nat → Nat) : (csL k1 k2 q).all (· < 128) = true := by
  rw [List.all_eq_true]
  intro c hc
  have := cs_alpha k1 k2 q c hc
  revert this
  have : ∀ c ∈ alpha, decide (c < 128) = true := by decide
  exact this c
theorem cs_len (k1 k2 q : Nat → Nat) : (csL k1 k2 q).length ≤ 61 := by
  unfold csL
  have := rowsL_len k1 k2 q
  simp; omega
end Mine
end
section
open PySem PySem.W PyProof.Rows
set_option Elab.async false
set_option maxRecDepth 100000
set_option linter.all false
set_option autoImplicit false
namespace Mine
theorem D.comp {Fa : AV → St → Option St} {Fe : St → Option (AV × St)} {i k : Nat} {src src' : ISrc} {S S₁ S₂ : St} {v y : AV} {l : List AV} {r : Option St} (h1 : inext S.hp src = some (some (v, src'))) (h2 : Fa v S = some S₁) (h3 : Fe S₁ = some (y, S₂)) (h4 : S₂.hp[i]? = some (.list l)) (h5 : l.length ≤ 4096) (h6 : compF Fa Fe i k src' ⟨S₂.hp.set i (.list (l ++ [y])), S₂.loc⟩ = r) : compF Fa Fe i (k + 1) src S = r := turnI1 h1 (bindI h2 (thenI h3 (bindI (listAt_eq h4) ((if_pos h5).trans h6))))
section
variable {G : Glob} {n : Nat} {mg mb mn mh : Names} {script : List Int}
theorem comp_words (P : Txt G mg mb mn mh script) (z : Nat → AO) {cs : List Nat} {Fa : AV → St → Option St} {Fe : St → Option (AV × St)} (hFa : ∀ hp loc (i : Nat), ∃ loc', Fa (.int (0 + i)) ⟨hp, loc⟩ = some ⟨hp, loc'⟩)
    (hFe : ∀ p T loc tk p', p ≤ cs.length → lexO 64 (cs.drop p) p = some (tk, p') → ∃ X, Fe ⟨LXp mg z cs p [] ++ T, loc⟩ = some (.str ⟨tk.toArray⟩, ⟨LXp mg z cs p' [] ++ (T ++ [.meth (.ref 66) 26, X]), loc⟩)) :
    ∀ (l : List (List Nat)) (p p'' : Nat), Toks cs p l p'' → ∀ (k : Nat) (acc : List AV) (Gs : List AO) (loc : List (Str × AV)) (js : List Nat), js.length = l.length → l.length < k → acc.length + l.length ≤ 4096 →
      ∃ (xs : List AO) (loc' : List (Str × AV)), xs.length = l.length ∧ compF Fa Fe 28 k (.leaf (.seq (js.map fun (j : Nat) => .int (0 + j)))) ⟨LXp mg z cs p [] ++ (.list acc :: Gs), loc⟩ = some ⟨LXp mg z cs p'' [] ++ (.list (acc ++ l.map fun t => .str ⟨t.toArray⟩) :: (Gs ++ xs.flatMap fun X => [.meth (.ref 66) 26, X])), loc'⟩ := by
  intro l p p'' h
  induction h with
  | nil =>
    intro k acc Gs loc js hi hk hz
    have : js = [] := List.length_eq_zero_iff.mp hi
    subst this
    cases k with
    | zero => simp at hk
    | succ k =>
      refine ⟨[], loc, rfl, ?_⟩
      simp only [List.map_nil, List.append_nil, List.flatMap_nil]
      rfl
  | @cons p p' p'' tk l hp hx t ih =>
    intro k acc Gs loc js hi hk hz
    cases k with
    | zero => simp at hk
    | succ k =>
      cases js with
      | nil => simp at hi
      | cons i js =>
        obtain ⟨loc1, e1⟩ := hFa (LXp mg z cs p [] ++ (.list acc :: Gs)) loc i
        obtain ⟨X, e2⟩ := hFe p (.list acc :: Gs) loc1 tk p' hp hx
        have e3 : (LXp mg z cs p' [] ++ ((AO.list acc :: Gs) ++ [.meth (.ref 66) 26, X]))[28]? = some (.list acc) := LX_get (T := (AO.list acc :: Gs) ++ [.meth (.ref 66) 26, X]) 0
        have e4 : (LXp mg z cs p' [] ++ ((AO.list acc :: Gs) ++ [.meth (.ref 66) 26, X])).set 28 (.list (acc ++ [.str ⟨tk.toArray⟩])) = LXp mg z cs p' [] ++ (.list (acc ++ [.str ⟨tk.toArray⟩]) :: (Gs ++ [.meth (.ref 66) 26, X])) := LX_set (T := (AO.list acc :: Gs) ++ [.meth (.ref 66) 26, X]) 0 _
        obtain ⟨xs, loc', h1, h2⟩ := ih k (acc ++ [.str ⟨tk.toArray⟩]) (Gs ++ [.meth (.ref 66) 26, X]) loc1 js (by simpa using hi) (by simpa using hk) (by simp at hz ⊢; omega)
        refine ⟨X :: xs, loc', by simp [h1], ?_⟩
        rw [List.map_cons]
        refine D.comp (v := .int (0 + i)) (src' := .leaf (.seq (js.map fun (j : Nat) => .int (0 + j)))) rfl e1 e2 e3 (by simp at hz ⊢; omega) ?_
        dsimp only
        rw [e4, h2]
        simp
end
end Mine
end
section
open PySem PySem.W PyProof.Rows
set_option Elab.async false
set_option maxRecDepth 100000
set_option linter.all false
set_option autoImplicit false
namespace Mine
noncomputable def UL (u : Nat → AO) (W : List AV) : List AO := [u 0, u 1, u 2, u 3, u 4, u 5, u 6, u 7, u 8, u 9, u 10, u 11, u 12, u 13, u 14, u 15, u 16, u 17, u 18, u 19, u 20, u 21, u 22, u 23, u 24, u 25, u 26, u 27, .list W, u 29, u 30, u 31, u 32, u 33, u 34, u 35, u 36, u 37, u 38, u 39, u 40, u 41, u 42, u 43, u 44, u 45, u 46, u 47, u 48, u 49, u 50, u 51, u 52, u 53, u 54, u 55, u 56, u 57, u 58, u 59]
noncomputable def wordsW (k1 k2 : Nat → Nat) : List AV := [.str ⟨#[97]⟩, .str (word (k1 0) (k2 0)), .str ⟨#[98]⟩, .str (word (k1 1) (k2 1)), .str ⟨#[99]⟩, .str (word (k1 2) (k2 2)), .str ⟨#[100]⟩, .str (word (k1 3) (k2 3)), .str ⟨#[101]⟩, .str (word (k1 4) (k2 4)), .str ⟨#[102]⟩, .str (word (k1 5) (k2 5)), .str (nx "abcdef"), .str (nx "")]
noncomputable def toldW (k1 k2 : Nat → Nat) : List AV := [.str (word (k1 0) (k2 0)), .str (word (k1 1) (k2 1)), .str (word (k1 2) (k2 2)), .str (word (k1 3) (k2 3)), .str (word (k1 4) (k2 4)), .str (word (k1 5) (k2 5))]
theorem D.cellm {fr : Fm} {x : Str} {F : Nat → St → Option (AFl × St)} {S : St} {i : Nat} {r : Option (AFl × St)} (h : fr.cells.lookup x = some i) (k : F i S = r) : (match fr.cells.lookup x with | some i => F i S | none => none) = r := by rw [h]; exact k
noncomputable def hT0 (u : Nat → AO) (k1 k2 : Nat → Nat) : List AO := UL u (wordsW k1 k2) ++ [.cell (some (.obj 62)), .ns [(nx "_headers", .obj 63)], .inst 282 61, .list [], .list [.str ⟨#[97]⟩, .str ⟨#[98]⟩, .str ⟨#[99]⟩, .str ⟨#[100]⟩, .str ⟨#[101]⟩, .str ⟨#[102]⟩], .list [.str (word (k1 0) (k2 0)), .str (word (k1 1) (k2 1)), .str (word (k1 2) (k2 2)), .str (word (k1 3) (k2 3)), .str (word (k1 4) (k2 4)), .str (word (k1 5) (k2 5))]]
noncomputable def hT1 (u : Nat → AO) (k1 k2 : Nat → Nat) : List AO := UL u (wordsW k1 k2) ++ [.cell (some (.obj 62)), .ns [(nx "_headers", .obj 63)], .inst 282 61, .list [.tup [.str ⟨#[97]⟩, .str (word (k1 0) (k2 0))]], .list [.str ⟨#[97]⟩, .str ⟨#[98]⟩, .str ⟨#[99]⟩, .str ⟨#[100]⟩, .str ⟨#[101]⟩, .str ⟨#[102]⟩], .list [.str (word (k1 0) (k2 0)), .str (word (k1 1) (k2 1)), .str (word (k1 2) (k2 2)), .str (word (k1 3) (k2 3)), .str (word (k1 4) (k2 4)), .str (word (k1 5) (k2 5))], .dict [], .list [.str (word (k1 0) (k2 0))]]
noncomputable def hT2 (u : Nat → AO) (k1 k2 : Nat → Nat) : List AO := UL u (wordsW k1 k2) ++ [.cell (some (.obj 62)), .ns [(nx "_headers", .obj 63)], .inst 282 61, .list [.tup [.str ⟨#[97]⟩, .str (word (k1 0) (k2 0))], .tup [.str ⟨#[98]⟩, .str (word (k1 1) (k2 1))]], .list [.str ⟨#[97]⟩, .str ⟨#[98]⟩, .str ⟨#[99]⟩, .str ⟨#[100]⟩, .str ⟨#[101]⟩, .str ⟨#[102]⟩], .list [.str (word (k1 0) (k2 0)), .str (word (k1 1) (k2 1)), .str (word (k1 2) (k2 2)), .str (word (k1 3) (k2 3)), .str (word (k1 4) (k2 4)), .str (word (k1 5) (k2 5))], .dict [], .list [.str (word (k1 0) (k2 0))], .dict [], .list [.str (word (k1 1) (k2 1))]]
noncomputable def hT3 (u : Nat → AO) (k1 k2 : Nat → Nat) : List AO := UL u (wordsW k1 k2) ++ [.cell (some (.obj 62)), .ns [(nx "_headers", .obj 63)], .inst 282 61, .list [.tup [.str ⟨#[97]⟩, .str (word (k1 0) (k2 0))], .tup [.str ⟨#[98]⟩, .str (word (k1 1) (k2 1))], .tup [.str ⟨#[99]⟩, .str (word (k1 2) (k2 2))]], .list [.str ⟨#[97]⟩, .str ⟨#[98]⟩, .str ⟨#[99]⟩, .str ⟨#[100]⟩, .str ⟨#[101]⟩, .str ⟨#[102]⟩], .list [.str (word (k1 0) (k2 0)), .str (word (k1 1) (k2 1)), .str (word (k1 2) (k2 2)), .str (word (k1 3) (k2 3)), .str (word (k1 4) (k2 4)), .str (word (k1 5) (k2 5))], .dict [], .list [.str (word (k1 0) (k2 0))], .dict [], .list [.str (word (k1 1) (k2 1))], .dict [], .list [.str (word (k1 2) (k2 2))]]
noncomputable def hT4 (u : Nat → AO) (k1 k2 : Nat → Nat) : List AO := UL u (wordsW k1 k2) ++ [.cell (some (.obj 62)), .ns [(nx "_headers", .obj 63)], .inst 282 61, .list [.tup [.str ⟨#[97]⟩, .str (word (k1 0) (k2 0))], .tup [.str ⟨#[98]⟩, .str (word (k1 1) (k2 1))], .tup [.str ⟨#[99]⟩, .str (word (k1 2) (k2 2))], .tup [.str ⟨#[100]⟩, .str (word (k1 3) (k2 3))]], .list [.str ⟨#[97]⟩, .str ⟨#[98]⟩, .str ⟨#[99]⟩, .str ⟨#[100]⟩, .str ⟨#[101]⟩, .str ⟨#[102]⟩], .list [.str (word (k1 0) (k2 0)), .str (word (k1 1) (k2 1)), .str (word (k1 2) (k2 2)), .str (word (k1 3) (k2 3)), .str (word (k1 4) (k2 4)), .str (word (k1 5) (k2 5))], .dict [], .list [.str (word (k1 0) (k2 0))], .dict [], .list [.str (word (k1 1) (k2 1))], .dict [], .list [.str (word (k1 2) (k2 2))], .dict [], .list [.str (word (k1 3) (k2 3))]]
noncomputable def hT5 (u : Nat → AO) (k1 k2 : Nat → Nat) : List AO := UL u (wordsW k1 k2) ++ [.cell (some (.obj 62)), .ns [(nx "_headers", .obj 63)], .inst 282 61, .list [.tup [.str ⟨#[97]⟩, .str (word (k1 0) (k2 0))], .tup [.str ⟨#[98]⟩, .str (word (k1 1) (k2 1))], .tup [.str ⟨#[99]⟩, .str (word (k1 2) (k2 2))], .tup [.str ⟨#[100]⟩, .str (word (k1 3) (k2 3))], .tup [.str ⟨#[101]⟩, .str (word (k1 4) (k2 4))]], .list [.str ⟨#[97]⟩, .str ⟨#[98]⟩, .str ⟨#[99]⟩, .str ⟨#[100]⟩, .str ⟨#[101]⟩, .str ⟨#[102]⟩], .list [.str (word (k1 0) (k2 0)), .str (word (k1 1) (k2 1)), .str (word (k1 2) (k2 2)), .str (word (k1 3) (k2 3)), .str (word (k1 4) (k2 4)), .str (word (k1 5) (k2 5))], .dict [], .list [.str (word (k1 0) (k2 0))], .dict [], .list [.str (word (k1 1) (k2 1))], .dict [], .list [.str (word (k1 2) (k2 2))], .dict [], .list [.str (word (k1 3) (k2 3))], .dict [], .list [.str (word (k1 4) (k2 4))]]
noncomputable def hT6 (u : Nat → AO) (k1 k2 : Nat → Nat) : List AO := UL u (wordsW k1 k2) ++ [.cell (some (.obj 62)), .ns [(nx "_headers", .obj 63)], .inst 282 61, .list [.tup [.str ⟨#[97]⟩, .str (word (k1 0) (k2 0))], .tup [.str ⟨#[98]⟩, .str (word (k1 1) (k2 1))], .tup [.str ⟨#[99]⟩, .str (word (k1 2) (k2 2))], .tup [.str ⟨#[100]⟩, .str (word (k1 3) (k2 3))], .tup [.str ⟨#[101]⟩, .str (word (k1 4) (k2 4))], .tup [.str ⟨#[102]⟩, .str (word (k1 5) (k2 5))]], .list [.str ⟨#[97]⟩, .str ⟨#[98]⟩, .str ⟨#[99]⟩, .str ⟨#[100]⟩, .str ⟨#[101]⟩, .str ⟨#[102]⟩], .list [.str (word (k1 0) (k2 0)), .str (word (k1 1) (k2 1)), .str (word (k1 2) (k2 2)), .str (word (k1 3) (k2 3)), .str (word (k1 4) (k2 4)), .str (word (k1 5) (k2 5))], .dict [], .list [.str (word (k1 0) (k2 0))], .dict [], .list [.str (word (k1 1) (k2 1))], .dict [], .list [.str (word (k1 2) (k2 2))], .dict [], .list [.str (word (k1 3) (k2 3))], .dict [], .list [.str (word (k1 4) (k2 4))], .dict [], .list [.str (word (k1 5) (k2 5))]]
section
variable {G : Glob} {n : Nat} {mg mb mn mh : Names} {script : List Int}
theorem ev_hadd0 (P : Txt G mg mb mn mh script) (u : Nat → AO) (k1 k2 : Nat → Nat) (h1 : k1 0 < 5) (h2 : k2 0 < 5) : F_hadd P n (hT0 u k1 k2) [.obj 62, .str ⟨#[97]⟩, .str (word (k1 0) (k2 0))] [] = some (.c .none, hT1 u k1 k2) := by
  unfold hT0 hT1
  generalize k1 0 = a at *
  generalize k2 0 = b at *
  match a, b, h1, h2 with
  | 0, 0, _, _ => kernel_rfl
  | 0, 1, _, _ => kernel_rfl
  | 0, 2, _, _ => kernel_rfl
  | 0, 3, _, _ => kernel_rfl
  | 0, 4, _, _ => kernel_rfl
  | 1, 0, _, _ => kernel_rfl
  | 1, 1, _, _ => kernel_rfl
  | 1, 2, _, _ => kernel_rfl
  | 1, 3, _, _ => kernel_rfl
  | 1, 4, _, _ => kernel_rfl
  | 2, 0, _, _ => kernel_rfl
  | 2, 1, _, _ => kernel_rfl
  | 2, 2, _, _ => kernel_rfl
  | 2, 3, _, _ => kernel_rfl
  | 2, 4, _, _ => kernel_rfl
  | 3, 0, _, _ => kernel_rfl
  | 3, 1, _, _ => kernel_rfl
  | 3, 2, _, _ => kernel_rfl
  | 3, 3, _, _ => kernel_rfl
  | 3, 4, _, _ => kernel_rfl
  | 4, 0, _, _ => kernel_rfl
  | 4, 1, _, _ => kernel_rfl
  | 4, 2, _, _ => kernel_rfl
  | 4, 3, _, _ => kernel_rfl
  | 4, 4, _, _ => kernel_rfl
  | _ + 5, _, h, _ => omega
  | _, _ + 5, _, h => omega
theorem ev_hadd1 (P : Txt G mg mb mn mh script) (u : Nat → AO) (k1 k2 : Nat → Nat) (h1 : k1 1 < 5) (h2 : k2 1 < 5) : F_hadd P n (hT1 u k1 k2) [.obj 62, .str ⟨#[98]⟩, .str (word (k1 1) (k2 1))] [] = some (.c .none, hT2 u k1 k2) := by
  unfold hT1 hT2
  generalize k1 1 = a at *
  generalize k2 1 = b at *
  match a, b, h1, h2 with
  | 0, 0, _, _ => kernel_rfl
  | 0, 1, _, _ => kernel_rfl
  | 0, 2, _, _ => kernel_rfl
  | 0, 3, _, _ => kernel_rfl
  | 0, 4, _, _ => kernel_rfl
  | 1, 0, _, _ => kernel_rfl
  | 1, 1, _, _ => kernel_rfl
  | 1, 2, _, _ => kernel_rfl
  | 1, 3, _, _ => kernel_rfl
  | 1, 4, _, _ => kernel_rfl
  | 2, 0, _, _ => kernel_rfl
  | 2, 1, _, _ => kernel_rfl
  | 2, 2, _, _ => kernel_rfl
  | 2, 3, _, _ => kernel_rfl
  | 2, 4, _, _ => kernel_rfl
  | 3, 0, _, _ => kernel_rfl
  | 3, 1, _, _ => kernel_rfl
  | 3, 2, _, _ => kernel_rfl
  | 3, 3, _, _ => kernel_rfl
  | 3, 4, _, _ => kernel_rfl
  | 4, 0, _, _ => kernel_rfl
  | 4, 1, _, _ => kernel_rfl
  | 4, 2, _, _ => kernel_rfl
  | 4, 3, _, _ => kernel_rfl
  | 4, 4, _, _ => kernel_rfl
  | _ + 5, _, h, _ => omega
  | _, _ + 5, _, h => omega
theorem ev_hadd2 (P : Txt G mg mb mn mh script) (u : Nat → AO) (k1 k2 : Nat → Nat) (h1 : k1 2 < 5) (h2 : k2 2 < 5) : F_hadd P n (hT2 u k1 k2) [.obj 62, .str ⟨#[99]⟩, .str (word (k1 2) (k2 2))] [] = some (.c .none, hT3 u k1 k2) := by
  unfold hT2 hT3
  generalize k1 2 = a at *
  generalize k2 2 = b at *
  match a, b, h1, h2 with
  | 0, 0, _, _ => kernel_rfl
  | 0, 1, _, _ => kernel_rfl
  | 0, 2, _, _ => kernel_rfl
  | 0, 3, _, _ => kernel_rfl
  | 0, 4, _, _ => kernel_rfl
  | 1, 0, _, _ => kernel_rfl
  | 1, 1, _, _ => kernel_rfl
  | 1, 2, _, _ => kernel_rfl
  | 1, 3, _, _ => kernel_rfl
  | 1, 4, _, _ => kernel_rfl
  | 2, 0, _, _ => kernel_rfl
  | 2, 1, _, _ => kernel_rfl
  | 2, 2, _, _ => kernel_rfl
  | 2, 3, _, _ => kernel_rfl
  | 2, 4, _, _ => kernel_rfl
  | 3, 0, _, _ => kernel_rfl
  | 3, 1, _, _ => kernel_rfl
  | 3, 2, _, _ => kernel_rfl
  | 3, 3, _, _ => kernel_rfl
  | 3, 4, _, _ => kernel_rfl
  | 4, 0, _, _ => kernel_rfl
  | 4, 1, _, _ => kernel_rfl
  | 4, 2, _, _ => kernel_rfl
  | 4, 3, _, _ => kernel_rfl
  | 4, 4, _, _ => kernel_rfl
  | _ + 5, _, h, _ => omega
  | _, _ + 5, _, h => omega
theorem ev_hadd3 (P : Txt G mg mb mn mh script) (u : Nat → AO) (k1 k2 : Nat → Nat) (h1 : k1 3 < 5) (h2 : k2 3 < 5) : F_hadd P n (hT3 u k1 k2) [.obj 62, .str ⟨#[100]⟩, .str (word (k1 3) (k2 3))] [] = some (.c .none, hT4 u k1 k2) := by
  unfold hT3 hT4
  generalize k1 3 = a at *
  generalize k2 3 = b at *
  match a, b, h1, h2 with
  | 0, 0, _, _ => kernel_rfl
  | 0, 1, _, _ => kernel_rfl
  | 0, 2, _, _ => kernel_rfl
  | 0, 3, _, _ => kernel_rfl
  | 0, 4, _, _ => kernel_rfl
  | 1, 0, _, _ => kernel_rfl
  | 1, 1, _, _ => kernel_rfl
  | 1, 2, _, _ => kernel_rfl
  | 1, 3, _, _ => kernel_rfl
  | 1, 4, _, _ => kernel_rfl
  | 2, 0, _, _ => kernel_rfl
  | 2, 1, _, _ => kernel_rfl
  | 2, 2, _, _ => kernel_rfl
  | 2, 3, _, _ => kernel_rfl
  | 2, 4, _, _ => kernel_rfl
  | 3, 0, _, _ => kernel_rfl
  | 3, 1, _, _ => kernel_rfl
  | 3, 2, _, _ => kernel_rfl
  | 3, 3, _, _ => kernel_rfl
  | 3, 4, _, _ => kernel_rfl
  | 4, 0, _, _ => kernel_rfl
  | 4, 1, _, _ => kernel_rfl
  | 4, 2, _, _ => kernel_rfl
  | 4, 3, _, _ => kernel_rfl
  | 4, 4, _, _ => kernel_rfl
  | _ + 5, _, h, _ => omega
  | _, _ + 5, _, h => omega
theorem ev_hadd4 (P : Txt G mg mb mn mh script) (u : Nat → AO) (k1 k2 : Nat → Nat) (h1 : k1 4 < 5) (h2 : k2 4 < 5) : F_hadd P n (hT4 u k1 k2) [.obj 62, .str ⟨#[101]⟩, .str (word (k1 4) (k2 4))] [] = some (.c .none, hT5 u k1 k2) := by
  unfold hT4 hT5
  generalize k1 4 = a at *
  generalize k2 4 = b at *
  match a, b, h1, h2 with
  | 0, 0, _, _ => kernel_rfl
  | 0, 1, _, _ => kernel_rfl
  | 0, 2, _, _ => kernel_rfl
  | 0, 3, _, _ => kernel_rfl
  | 0, 4, _, _ => kernel_rfl
  | 1, 0, _, _ => kernel_rfl
  | 1, 1, _, _ => kernel_rfl
  | 1, 2, _, _ => kernel_rfl
  | 1, 3, _, _ => kernel_rfl
  | 1, 4, _, _ => kernel_rfl
  | 2, 0, _, _ => kernel_rfl
  | 2, 1, _, _ => kernel_rfl
  | 2, 2, _, _ => kernel_rfl
  | 2, 3, _, _ => kernel_rfl
  | 2, 4, _, _ => kernel_rfl
  | 3, 0, _, _ => kernel_rfl
  | 3, 1, _, _ => kernel_rfl
  | 3, 2, _, _ => kernel_rfl
  | 3, 3, _, _ => kernel_rfl
  | 3, 4, _, _ => kernel_rfl
  | 4, 0, _, _ => kernel_rfl
  | 4, 1, _, _ => kernel_rfl
  | 4, 2, _, _ => kernel_rfl
  | 4, 3, _, _ => kernel_rfl
  | 4, 4, _, _ => kernel_rfl
  | _ + 5, _, h, _ => omega
  | _, _ + 5, _, h => omega
theorem ev_hadd5 (P : Txt G mg mb mn mh script) (u : Nat → AO) (k1 k2 : Nat → Nat) (h1 : k1 5 < 5) (h2 : k2 5 < 5) : F_hadd P n (hT5 u k1 k2) [.obj 62, .str ⟨#[102]⟩, .str (word (k1 5) (k2 5))] [] = some (.c .none, hT6 u k1 k2) := by
  unfold hT5 hT6
  generalize k1 5 = a at *
  generalize k2 5 = b at *
  match a, b, h1, h2 with
  | 0, 0, _, _ => kernel_rfl
  | 0, 1, _, _ => kernel_rfl
  | 0, 2, _, _ => kernel_rfl
  | 0, 3, _, _ => kernel_rfl
  | 0, 4, _, _ => kernel_rfl
  | 1, 0, _, _ => kernel_rfl
  | 1, 1, _, _ => kernel_rfl
  | 1, 2, _, _ => kernel_rfl
  | 1, 3, _, _ => kernel_rfl
  | 1, 4, _, _ => kernel_rfl
  | 2, 0, _, _ => kernel_rfl
  | 2, 1, _, _ => kernel_rfl
  | 2, 2, _, _ => kernel_rfl
  | 2, 3, _, _ => kernel_rfl
  | 2, 4, _, _ => kernel_rfl
  | 3, 0, _, _ => kernel_rfl
  | 3, 1, _, _ => kernel_rfl
  | 3, 2, _, _ => kernel_rfl
  | 3, 3, _, _ => kernel_rfl
  | 3, 4, _, _ => kernel_rfl
  | 4, 0, _, _ => kernel_rfl
  | 4, 1, _, _ => kernel_rfl
  | 4, 2, _, _ => kernel_rfl
  | 4, 3, _, _ => kernel_rfl
  | 4, 4, _, _ => kernel_rfl
  | _ + 5, _, h, _ => omega
  | _, _ + 5, _, h => omega
theorem ev_table (P : Txt G mg mb mn mh script) (u : Nat → AO) (k1 k2 : Nat → Nat) (h1 : ∀ i, k1 i < 5) (h2 : ∀ i, k2 i < 5) : F_table P n (UL u (wordsW k1 k2)) [.obj 28] [] = some (.obj 78, hT6 u k1 k2 ++ [.list (toldW k1 k2)]) := by
  let S1 : St := ⟨UL u (wordsW k1 k2) ++ [.cell (some (.obj 62)), .ns [(nx "_headers", .obj 63)], .inst 282 61, .list []], [(nx "words", .obj 28)]⟩
  unfold F_table
  apply D.fn (S := ⟨UL u (wordsW k1 k2) ++ [.cell none], [(nx "words", .obj 28)]⟩) (S' := ⟨hT6 u k1 k2 ++ [.list (toldW k1 k2)], [(nx "words", .obj 28), (nx "letter", .str ⟨#[102]⟩), (nx "word", .str (word (k1 5) (k2 5)))]⟩)
  · rfl
  · kernel_rfl
  · have e : (layA (dfn 25).2.2.names [] (UL u (wordsW k1 k2))).1 = [(Str.ofString "table", 60)] := by kernel_rfl
    rw [e]
    unfold B_table
    dsimp only
    rw [show List.lookup (Str.ofString "table") [(Str.ofString "table", 60)] = some 60 from rfl]
    dsimp only
    refine D.next (S₁ := S1) (by kernel_rfl) ?_
    refine D.next (S₁ := (⟨hT6 u k1 k2, [(nx "words", .obj 28), (nx "letter", .str ⟨#[102]⟩), (nx "word", .str (word (k1 5) (k2 5)))]⟩ : St)) ?_ ?_
    · refine D.for (src := .zip (.list 64 0) (.list 65 0)) (S₁ := (⟨hT0 u k1 k2, [(nx "words", .obj 28)]⟩ : St)) (by kernel_rfl) (by kernel_rfl) ?_
      refine D.loop (v := .tup [.str ⟨#[97]⟩, .str (word (k1 0) (k2 0))]) (src' := .zip (.list 64 1) (.list 65 1)) (S₁ := (⟨hT0 u k1 k2, [(nx "words", .obj 28), (nx "letter", .str ⟨#[97]⟩), (nx "word", .str (word (k1 0) (k2 0)))]⟩ : St)) (S₂ := (⟨hT1 u k1 k2, [(nx "words", .obj 28), (nx "letter", .str ⟨#[97]⟩), (nx "word", .str (word (k1 0) (k2 0)))]⟩ : St)) (by kernel_rfl) (by kernel_rfl) ?_ ?_
      · refine D.next (S₁ := (⟨hT1 u k1 k2, [(nx "words", .obj 28), (nx "letter", .str ⟨#[97]⟩), (nx "word", .str (word (k1 0) (k2 0)))]⟩ : St)) ?_ rfl
        exact D.expr (D.meth (S₀ := (⟨hT0 u k1 k2, [(nx "words", .obj 28), (nx "letter", .str ⟨#[97]⟩), (nx "word", .str (word (k1 0) (k2 0)))]⟩ : St)) (S₁ := (⟨hT0 u k1 k2, [(nx "words", .obj 28), (nx "letter", .str ⟨#[97]⟩), (nx "word", .str (word (k1 0) (k2 0)))]⟩ : St)) (S₂ := (⟨hT0 u k1 k2, [(nx "words", .obj 28), (nx "letter", .str ⟨#[97]⟩), (nx "word", .str (word (k1 0) (k2 0)))]⟩ : St)) (a := .obj 62) (as := [.str ⟨#[97]⟩, .str (word (k1 0) (k2 0))]) (ks := []) (by kernel_rfl) (by kernel_rfl) (by kernel_rfl) rfl (ev_hadd0 P u k1 k2 (h1 0) (h2 0)))
      refine D.loop (v := .tup [.str ⟨#[98]⟩, .str (word (k1 1) (k2 1))]) (src' := .zip (.list 64 2) (.list 65 2)) (S₁ := (⟨hT1 u k1 k2, [(nx "words", .obj 28), (nx "letter", .str ⟨#[98]⟩), (nx "word", .str (word (k1 1) (k2 1)))]⟩ : St)) (S₂ := (⟨hT2 u k1 k2, [(nx "words", .obj 28), (nx "letter", .str ⟨#[98]⟩), (nx "word", .str (word (k1 1) (k2 1)))]⟩ : St)) (by kernel_rfl) (by kernel_rfl) ?_ ?_
      · refine D.next (S₁ := (⟨hT2 u k1 k2, [(nx "words", .obj 28), (nx "letter", .str ⟨#[98]⟩), (nx "word", .str (word (k1 1) (k2 1)))]⟩ : St)) ?_ rfl
        exact D.expr (D.meth (S₀ := (⟨hT1 u k1 k2, [(nx "words", .obj 28), (nx "letter", .str ⟨#[98]⟩), (nx "word", .str (word (k1 1) (k2 1)))]⟩ : St)) (S₁ := (⟨hT1 u k1 k2, [(nx "words", .obj 28), (nx "letter", .str ⟨#[98]⟩), (nx "word", .str (word (k1 1) (k2 1)))]⟩ : St)) (S₂ := (⟨hT1 u k1 k2, [(nx "words", .obj 28), (nx "letter", .str ⟨#[98]⟩), (nx "word", .str (word (k1 1) (k2 1)))]⟩ : St)) (a := .obj 62) (as := [.str ⟨#[98]⟩, .str (word (k1 1) (k2 1))]) (ks := []) (by kernel_rfl) (by kernel_rfl) (by kernel_rfl) rfl (ev_hadd1 P u k1 k2 (h1 1) (h2 1)))
      refine D.loop (v := .tup [.str ⟨#[99]⟩, .str (word (k1 2) (k2 2))]) (src' := .zip (.list 64 3) (.list 65 3)) (S₁ := (⟨hT2 u k1 k2, [(nx "words", .obj 28), (nx "letter", .str ⟨#[99]⟩), (nx "word", .str (word (k1 2) (k2 2)))]⟩ : St)) (S₂ := (⟨hT3 u k1 k2, [(nx "words", .obj 28), (nx "letter", .str ⟨#[99]⟩), (nx "word", .str (word (k1 2) (k2 2)))]⟩ : St)) (by kernel_rfl) (by kernel_rfl) ?_ ?_
      · refine D.next (S₁ := (⟨hT3 u k1 k2, [(nx "words", .obj 28), (nx "letter", .str ⟨#[99]⟩), (nx "word", .str (word (k1 2) (k2 2)))]⟩ : St)) ?_ rfl
        exact D.expr (D.meth (S₀ := (⟨hT2 u k1 k2, [(nx "words", .obj 28), (nx "letter", .str ⟨#[99]⟩), (nx "word", .str (word (k1 2) (k2 2)))]⟩ : St)) (S₁ := (⟨hT2 u k1 k2, [(nx "words", .obj 28), (nx "letter", .str ⟨#[99]⟩), (nx "word", .str (word (k1 2) (k2 2)))]⟩ : St)) (S₂ := (⟨hT2 u k1 k2, [(nx "words", .obj 28), (nx "letter", .str ⟨#[99]⟩), (nx "word", .str (word (k1 2) (k2 2)))]⟩ : St)) (a := .obj 62) (as := [.str ⟨#[99]⟩, .str (word (k1 2) (k2 2))]) (ks := []) (by kernel_rfl) (by kernel_rfl) (by kernel_rfl) rfl (ev_hadd2 P u k1 k2 (h1 2) (h2 2)))
      refine D.loop (v := .tup [.str ⟨#[100]⟩, .str (word (k1 3) (k2 3))]) (src' := .zip (.list 64 4) (.list 65 4)) (S₁ := (⟨hT3 u k1 k2, [(nx "words", .obj 28), (nx "letter", .str ⟨#[100]⟩), (nx "word", .str (word (k1 3) (k2 3)))]⟩ : St)) (S₂ := (⟨hT4 u k1 k2, [(nx "words", .obj 28), (nx "letter", .str ⟨#[100]⟩), (nx "word", .str (word (k1 3) (k2 3)))]⟩ : St)) (by kernel_rfl) (by kernel_rfl) ?_ ?_
      · refine D.next (S₁ := (⟨hT4 u k1 k2, [(nx "words", .obj 28), (nx "letter", .str ⟨#[100]⟩), (nx "word", .str (word (k1 3) (k2 3)))]⟩ : St)) ?_ rfl
        exact D.expr (D.meth (S₀ := (⟨hT3 u k1 k2, [(nx "words", .obj 28), (nx "letter", .str ⟨#[100]⟩), (nx "word", .str (word (k1 3) (k2 3)))]⟩ : St)) (S₁ := (⟨hT3 u k1 k2, [(nx "words", .obj 28), (nx "letter", .str ⟨#[100]⟩), (nx "word", .str (word (k1 3) (k2 3)))]⟩ : St)) (S₂ := (⟨hT3 u k1 k2, [(nx "words", .obj 28), (nx "letter", .str ⟨#[100]⟩), (nx "word", .str (word (k1 3) (k2 3)))]⟩ : St)) (a := .obj 62) (as := [.str ⟨#[100]⟩, .str (word (k1 3) (k2 3))]) (ks := []) (by kernel_rfl) (by kernel_rfl) (by kernel_rfl) rfl (ev_hadd3 P u k1 k2 (h1 3) (h2 3)))
      refine D.loop (v := .tup [.str ⟨#[101]⟩, .str (word (k1 4) (k2 4))]) (src' := .zip (.list 64 5) (.list 65 5)) (S₁ := (⟨hT4 u k1 k2, [(nx "words", .obj 28), (nx "letter", .str ⟨#[101]⟩), (nx "word", .str (word (k1 4) (k2 4)))]⟩ : St)) (S₂ := (⟨hT5 u k1 k2, [(nx "words", .obj 28), (nx "letter", .str ⟨#[101]⟩), (nx "word", .str (word (k1 4) (k2 4)))]⟩ : St)) (by kernel_rfl) (by kernel_rfl) ?_ ?_
      · refine D.next (S₁ := (⟨hT5 u k1 k2, [(nx "words", .obj 28), (nx "letter", .str ⟨#[101]⟩), (nx "word", .str (word (k1 4) (k2 4)))]⟩ : St)) ?_ rfl
        exact D.expr (D.meth (S₀ := (⟨hT4 u k1 k2, [(nx "words", .obj 28), (nx "letter", .str ⟨#[101]⟩), (nx "word", .str (word (k1 4) (k2 4)))]⟩ : St)) (S₁ := (⟨hT4 u k1 k2, [(nx "words", .obj 28), (nx "letter", .str ⟨#[101]⟩), (nx "word", .str (word (k1 4) (k2 4)))]⟩ : St)) (S₂ := (⟨hT4 u k1 k2, [(nx "words", .obj 28), (nx "letter", .str ⟨#[101]⟩), (nx "word", .str (word (k1 4) (k2 4)))]⟩ : St)) (a := .obj 62) (as := [.str ⟨#[101]⟩, .str (word (k1 4) (k2 4))]) (ks := []) (by kernel_rfl) (by kernel_rfl) (by kernel_rfl) rfl (ev_hadd4 P u k1 k2 (h1 4) (h2 4)))
      refine D.loop (v := .tup [.str ⟨#[102]⟩, .str (word (k1 5) (k2 5))]) (src' := .zip (.list 64 6) (.list 65 6)) (S₁ := (⟨hT5 u k1 k2, [(nx "words", .obj 28), (nx "letter", .str ⟨#[102]⟩), (nx "word", .str (word (k1 5) (k2 5)))]⟩ : St)) (S₂ := (⟨hT6 u k1 k2, [(nx "words", .obj 28), (nx "letter", .str ⟨#[102]⟩), (nx "word", .str (word (k1 5) (k2 5)))]⟩ : St)) (by kernel_rfl) (by kernel_rfl) ?_ ?_
      · refine D.next (S₁ := (⟨hT6 u k1 k2, [(nx "words", .obj 28), (nx "letter", .str ⟨#[102]⟩), (nx "word", .str (word (k1 5) (k2 5)))]⟩ : St)) ?_ rfl
        exact D.expr (D.meth (S₀ := (⟨hT5 u k1 k2, [(nx "words", .obj 28), (nx "letter", .str ⟨#[102]⟩), (nx "word", .str (word (k1 5) (k2 5)))]⟩ : St)) (S₁ := (⟨hT5 u k1 k2, [(nx "words", .obj 28), (nx "letter", .str ⟨#[102]⟩), (nx "word", .str (word (k1 5) (k2 5)))]⟩ : St)) (S₂ := (⟨hT5 u k1 k2, [(nx "words", .obj 28), (nx "letter", .str ⟨#[102]⟩), (nx "word", .str (word (k1 5) (k2 5)))]⟩ : St)) (a := .obj 62) (as := [.str ⟨#[102]⟩, .str (word (k1 5) (k2 5))]) (ks := []) (by kernel_rfl) (by kernel_rfl) (by kernel_rfl) rfl (ev_hadd5 P u k1 k2 (h1 5) (h2 5)))
      exact D.done (by kernel_rfl) rfl
    · exact D.stop (D.ret (by kernel_rfl))
  · rfl
end
end Mine
end
section
open PySem PySem.W PyProof.Rows
set_option Elab.async false
set_option maxRecDepth 100000
set_option linter.all false
set_option autoImplicit false
namespace Mine
noncomputable def VL (u : Nat → AO) (W : List AV) : List AO := [u 0, u 1, u 2, u 3, u 4, u 5, u 6, u 7, u 8, u 9, u 10, u 11, u 12, u 13, u 14, u 15, u 16, u 17, u 18, u 19, u 20, u 21, u 22, u 23, u 24, u 25, u 26, u 27, u 28, u 29, u 30, u 31, u 32, u 33, u 34, u 35, u 36, u 37, u 38, u 39, u 40, u 41, u 42, u 43, u 44, u 45, u 46, u 47, u 48, u 49, u 50, u 51, u 52, u 53, u 54, u 55, u 56, u 57, u 58, u 59, u 60, u 61, u 62, u 63, u 64, u 65, u 66, u 67, u 68, u 69, u 70, u 71, u 72, u 73, u 74, u 75, u 76, u 77, .list W]
noncomputable def yw (a b : Nat) : Int := 1 + (5 * (a : Int) + (b : Int))
noncomputable def pairsD (k1 k2 : Nat → Nat) : List (Str × AV) := [(nx "ab", .tup [.int (strcollI (word (k1 1) (k2 1)) (word (k1 0) (k2 0))), .int (yw (k1 1) (k2 1) - yw (k1 0) (k2 0)), .int (yw (k1 0) (k2 0) + yw (k1 1) (k2 1))]),
  (nx "ac", .tup [.int (strcollI (word (k1 2) (k2 2)) (word (k1 0) (k2 0))), .int (yw (k1 2) (k2 2) - yw (k1 0) (k2 0)), .int (yw (k1 0) (k2 0) + yw (k1 2) (k2 2))]),
  (nx "ad", .tup [.int (strcollI (word (k1 3) (k2 3)) (word (k1 0) (k2 0))), .int (yw (k1 3) (k2 3) - yw (k1 0) (k2 0)), .int (yw (k1 0) (k2 0) + yw (k1 3) (k2 3))]),
  (nx "ae", .tup [.int (strcollI (word (k1 4) (k2 4)) (word (k1 0) (k2 0))), .int (yw (k1 4) (k2 4) - yw (k1 0) (k2 0)), .int (yw (k1 0) (k2 0) + yw (k1 4) (k2 4))]),
  (nx "af", .tup [.int (strcollI (word (k1 5) (k2 5)) (word (k1 0) (k2 0))), .int (yw (k1 5) (k2 5) - yw (k1 0) (k2 0)), .int (yw (k1 0) (k2 0) + yw (k1 5) (k2 5))]),
  (nx "ba", .tup [.int (strcollI (word (k1 0) (k2 0)) (word (k1 1) (k2 1))), .int (yw (k1 0) (k2 0) - yw (k1 1) (k2 1)), .int (yw (k1 1) (k2 1) + yw (k1 0) (k2 0))]),
  (nx "bc", .tup [.int (strcollI (word (k1 2) (k2 2)) (word (k1 1) (k2 1))), .int (yw (k1 2) (k2 2) - yw (k1 1) (k2 1)), .int (yw (k1 1) (k2 1) + yw (k1 2) (k2 2))]),
  (nx "bd", .tup [.int (strcollI (word (k1 3) (k2 3)) (word (k1 1) (k2 1))), .int (yw (k1 3) (k2 3) - yw (k1 1) (k2 1)), .int (yw (k1 1) (k2 1) + yw (k1 3) (k2 3))]),
  (nx "be", .tup [.int (strcollI (word (k1 4) (k2 4)) (word (k1 1) (k2 1))), .int (yw (k1 4) (k2 4) - yw (k1 1) (k2 1)), .int (yw (k1 1) (k2 1) + yw (k1 4) (k2 4))]),
  (nx "bf", .tup [.int (strcollI (word (k1 5) (k2 5)) (word (k1 1) (k2 1))), .int (yw (k1 5) (k2 5) - yw (k1 1) (k2 1)), .int (yw (k1 1) (k2 1) + yw (k1 5) (k2 5))]),
  (nx "ca", .tup [.int (strcollI (word (k1 0) (k2 0)) (word (k1 2) (k2 2))), .int (yw (k1 0) (k2 0) - yw (k1 2) (k2 2)), .int (yw (k1 2) (k2 2) + yw (k1 0) (k2 0))]),
  (nx "cb", .tup [.int (strcollI (word (k1 1) (k2 1)) (word (k1 2) (k2 2))), .int (yw (k1 1) (k2 1) - yw (k1 2) (k2 2)), .int (yw (k1 2) (k2 2) + yw (k1 1) (k2 1))]),
  (nx "cd", .tup [.int (strcollI (word (k1 3) (k2 3)) (word (k1 2) (k2 2))), .int (yw (k1 3) (k2 3) - yw (k1 2) (k2 2)), .int (yw (k1 2) (k2 2) + yw (k1 3) (k2 3))]),
  (nx "ce", .tup [.int (strcollI (word (k1 4) (k2 4)) (word (k1 2) (k2 2))), .int (yw (k1 4) (k2 4) - yw (k1 2) (k2 2)), .int (yw (k1 2) (k2 2) + yw (k1 4) (k2 4))]),
  (nx "cf", .tup [.int (strcollI (word (k1 5) (k2 5)) (word (k1 2) (k2 2))), .int (yw (k1 5) (k2 5) - yw (k1 2) (k2 2)), .int (yw (k1 2) (k2 2) + yw (k1 5) (k2 5))]),
  (nx "da", .tup [.int (strcollI (word (k1 0) (k2 0)) (word (k1 3) (k2 3))), .int (yw (k1 0) (k2 0) - yw (k1 3) (k2 3)), .int (yw (k1 3) (k2 3) + yw (k1 0) (k2 0))]),
  (nx "db", .tup [.int (strcollI (word (k1 1) (k2 1)) (word (k1 3) (k2 3))), .int (yw (k1 1) (k2 1) - yw (k1 3) (k2 3)), .int (yw (k1 3) (k2 3) + yw (k1 1) (k2 1))]),
  (nx "dc", .tup [.int (strcollI (word (k1 2) (k2 2)) (word (k1 3) (k2 3))), .int (yw (k1 2) (k2 2) - yw (k1 3) (k2 3)), .int (yw (k1 3) (k2 3) + yw (k1 2) (k2 2))]),
  (nx "de", .tup [.int (strcollI (word (k1 4) (k2 4)) (word (k1 3) (k2 3))), .int (yw (k1 4) (k2 4) - yw (k1 3) (k2 3)), .int (yw (k1 3) (k2 3) + yw (k1 4) (k2 4))]),
  (nx "df", .tup [.int (strcollI (word (k1 5) (k2 5)) (word (k1 3) (k2 3))), .int (yw (k1 5) (k2 5) - yw (k1 3) (k2 3)), .int (yw (k1 3) (k2 3) + yw (k1 5) (k2 5))]),
  (nx "ea", .tup [.int (strcollI (word (k1 0) (k2 0)) (word (k1 4) (k2 4))), .int (yw (k1 0) (k2 0) - yw (k1 4) (k2 4)), .int (yw (k1 4) (k2 4) + yw (k1 0) (k2 0))]),
  (nx "eb", .tup [.int (strcollI (word (k1 1) (k2 1)) (word (k1 4) (k2 4))), .int (yw (k1 1) (k2 1) - yw (k1 4) (k2 4)), .int (yw (k1 4) (k2 4) + yw (k1 1) (k2 1))]),
  (nx "ec", .tup [.int (strcollI (word (k1 2) (k2 2)) (word (k1 4) (k2 4))), .int (yw (k1 2) (k2 2) - yw (k1 4) (k2 4)), .int (yw (k1 4) (k2 4) + yw (k1 2) (k2 2))]),
  (nx "ed", .tup [.int (strcollI (word (k1 3) (k2 3)) (word (k1 4) (k2 4))), .int (yw (k1 3) (k2 3) - yw (k1 4) (k2 4)), .int (yw (k1 4) (k2 4) + yw (k1 3) (k2 3))]),
  (nx "ef", .tup [.int (strcollI (word (k1 5) (k2 5)) (word (k1 4) (k2 4))), .int (yw (k1 5) (k2 5) - yw (k1 4) (k2 4)), .int (yw (k1 4) (k2 4) + yw (k1 5) (k2 5))]),
  (nx "fa", .tup [.int (strcollI (word (k1 0) (k2 0)) (word (k1 5) (k2 5))), .int (yw (k1 0) (k2 0) - yw (k1 5) (k2 5)), .int (yw (k1 5) (k2 5) + yw (k1 0) (k2 0))]),
  (nx "fb", .tup [.int (strcollI (word (k1 1) (k2 1)) (word (k1 5) (k2 5))), .int (yw (k1 1) (k2 1) - yw (k1 5) (k2 5)), .int (yw (k1 5) (k2 5) + yw (k1 1) (k2 1))]),
  (nx "fc", .tup [.int (strcollI (word (k1 2) (k2 2)) (word (k1 5) (k2 5))), .int (yw (k1 2) (k2 2) - yw (k1 5) (k2 5)), .int (yw (k1 5) (k2 5) + yw (k1 2) (k2 2))]),
  (nx "fd", .tup [.int (strcollI (word (k1 3) (k2 3)) (word (k1 5) (k2 5))), .int (yw (k1 3) (k2 3) - yw (k1 5) (k2 5)), .int (yw (k1 5) (k2 5) + yw (k1 3) (k2 3))]),
  (nx "fe", .tup [.int (strcollI (word (k1 4) (k2 4)) (word (k1 5) (k2 5))), .int (yw (k1 4) (k2 4) - yw (k1 5) (k2 5)), .int (yw (k1 5) (k2 5) + yw (k1 4) (k2 4))])]
noncomputable def worthsL (k1 k2 : Nat → Nat) : List AV := [.int (yw (k1 0) (k2 0)), .int (yw (k1 1) (k2 1)), .int (yw (k1 2) (k2 2)), .int (yw (k1 3) (k2 3)), .int (yw (k1 4) (k2 4)), .int (yw (k1 5) (k2 5))]
noncomputable def hP0 (u : Nat → AO) (k1 k2 : Nat → Nat) : List AO := VL u (toldW k1 k2) ++ [.cell (some (.str sgnS)), .dict [], .list []]
noncomputable def hP1 (u : Nat → AO) (k1 k2 : Nat → Nat) : List AO := VL u (toldW k1 k2) ++ [.cell (some (.str sgnS)), .dict [], .list [.int (yw (k1 0) (k2 0))]]
noncomputable def hP2 (u : Nat → AO) (k1 k2 : Nat → Nat) : List AO := VL u (toldW k1 k2) ++ [.cell (some (.str sgnS)), .dict [], .list [.int (yw (k1 0) (k2 0)), .int (yw (k1 1) (k2 1))]]
noncomputable def hP3 (u : Nat → AO) (k1 k2 : Nat → Nat) : List AO := VL u (toldW k1 k2) ++ [.cell (some (.str sgnS)), .dict [], .list [.int (yw (k1 0) (k2 0)), .int (yw (k1 1) (k2 1)), .int (yw (k1 2) (k2 2))]]
noncomputable def hP4 (u : Nat → AO) (k1 k2 : Nat → Nat) : List AO := VL u (toldW k1 k2) ++ [.cell (some (.str sgnS)), .dict [], .list [.int (yw (k1 0) (k2 0)), .int (yw (k1 1) (k2 1)), .int (yw (k1 2) (k2 2)), .int (yw (k1 3) (k2 3))]]
noncomputable def hP5 (u : Nat → AO) (k1 k2 : Nat → Nat) : List AO := VL u (toldW k1 k2) ++ [.cell (some (.str sgnS)), .dict [], .list [.int (yw (k1 0) (k2 0)), .int (yw (k1 1) (k2 1)), .int (yw (k1 2) (k2 2)), .int (yw (k1 3) (k2 3)), .int (yw (k1 4) (k2 4))]]
noncomputable def hP6 (u : Nat → AO) (k1 k2 : Nat → Nat) : List AO := VL u (toldW k1 k2) ++ [.cell (some (.str sgnS)), .dict [], .list [.int (yw (k1 0) (k2 0)), .int (yw (k1 1) (k2 1)), .int (yw (k1 2) (k2 2)), .int (yw (k1 3) (k2 3)), .int (yw (k1 4) (k2 4)), .int (yw (k1 5) (k2 5))]]
theorem D.swap {F : St → Option (AV × St)} {Fa : AV → St → Option St} {S S₁ S₂ : St} {v : AV} (h : F S = some (v, S₁)) (k : Fa v S₁ = some S₂) : swapF F Fa S = some (.next, S₂) := thenI h (by rw [k]; rfl)
theorem D.comps {k : Nat} {target : Expr} {Fi : St → Option (ISrc × St)} {Fa : AV → St → Option St} {Fe : St → Option (AV × St)} {src : ISrc} {S S₁ S₂ : St} {v : AV} {r : St} (h1 : Fi S = some (src, S₁)) (h2 : targetOk src target = true) (h4 : some (AV.obj S₁.hp.length, (⟨S₂.hp, S₁.loc⟩ : St)) = some (v, r)) (h3 : compF Fa Fe S₁.hp.length k src ⟨S₁.hp ++ [.list []], []⟩ = some S₂) : compE k target Fi Fa Fe S = some (v, r) := by
  exact thenI h1 ((if_pos h2).trans (by rw [h3]; exact h4))
section
variable {G : Glob} {n : Nat} {mg mb mn mh : Names} {script : List Int}
set_option maxHeartbeats 4000000 in
theorem ev_pairs (P : Txt G mg mb mn mh script) (u : Nat → AO) (k1 k2 : Nat → Nat) (h1 : ∀ i, k1 i < 5) (h2 : ∀ i, k2 i < 5) : F_pairs P n (VL u (toldW k1 k2)) [.obj 78] [] = some (.obj 80, VL u (toldW k1 k2) ++ [.cell (some (.str sgnS)), .dict (pairsD k1 k2), .list (worthsL k1 k2)]) := by
  unfold F_pairs
  apply D.fn (S := ⟨VL u (toldW k1 k2) ++ [.cell none], [(nx "told", .obj 78)]⟩) (S' := ⟨VL u (toldW k1 k2) ++ [.cell (some (.str sgnS)), .dict (pairsD k1 k2), .list (worthsL k1 k2)], [(nx "told", .obj 78), (nx "pairs", .obj 80), (nx "worths", .obj 81), (nx "one", .int 5), (nx "early", .str (nx "f")), (nx "two", .int 5), (nx "late", .str (nx "f"))]⟩)
  · rfl
  · kernel_rfl
  · have e : (layA (dfn 26).2.2.names [] (VL u (toldW k1 k2))).1 = [(Str.ofString "signs", 79)] := by kernel_rfl
    rw [e]
    unfold B_pairs
    dsimp only
    rw [show List.lookup (Str.ofString "signs") [(Str.ofString "signs", 79)] = some 79 from rfl]
    dsimp only
    refine D.next (S₁ := ⟨VL u (toldW k1 k2) ++ [.cell (some (.str sgnS)), .dict []], [(nx "told", .obj 78), (nx "pairs", .obj 80)]⟩) (by kernel_rfl) ?_
    refine D.next (S₁ := ⟨hP6 u k1 k2, [(nx "told", .obj 78), (nx "pairs", .obj 80), (nx "worths", .obj 81)]⟩) ?_ ?_
    · refine D.swap (S₁ := ⟨hP6 u k1 k2, [(nx "told", .obj 78), (nx "pairs", .obj 80)]⟩) (v := .obj 81) ?_ (by kernel_rfl)
      refine D.comps (src := .leaf (.list 78 0)) (S₁ := ⟨VL u (toldW k1 k2) ++ [.cell (some (.str sgnS)), .dict []], [(nx "told", .obj 78), (nx "pairs", .obj 80)]⟩) (S₂ := ⟨hP6 u k1 k2, [(nx "word", .str (word (k1 5) (k2 5)))]⟩) (by kernel_rfl) (by kernel_rfl) (by kernel_rfl) ?_
      rw [show (VL u (toldW k1 k2) ++ [.cell (some (.str sgnS)), .dict []] : List AO).length = 81 by kernel_rfl]
      refine D.comp (v := .str (word (k1 0) (k2 0))) (y := .int (yw (k1 0) (k2 0))) (l := []) (src' := .leaf (.list 78 1)) (S₁ := ⟨hP0 u k1 k2, [(nx "word", .str (word (k1 0) (k2 0)))]⟩) (S₂ := ⟨hP0 u k1 k2, [(nx "word", .str (word (k1 0) (k2 0)))]⟩) (by kernel_rfl) (by kernel_rfl) ?_ (by kernel_rfl) (by simp) ?_
      · have g1 := h1 0
        have g2 := h2 0
        unfold hP0
        unfold toldW
        generalize k1 0 = a at *
        generalize k2 0 = b at *
        match a, b, g1, g2 with
        | 0, 0, _, _ => kernel_rfl
        | 0, 1, _, _ => kernel_rfl
        | 0, 2, _, _ => kernel_rfl
        | 0, 3, _, _ => kernel_rfl
        | 0, 4, _, _ => kernel_rfl
        | 1, 0, _, _ => kernel_rfl
        | 1, 1, _, _ => kernel_rfl
        | 1, 2, _, _ => kernel_rfl
        | 1, 3, _, _ => kernel_rfl
        | 1, 4, _, _ => kernel_rfl
        | 2, 0, _, _ => kernel_rfl
        | 2, 1, _, _ => kernel_rfl
        | 2, 2, _, _ => kernel_rfl
        | 2, 3, _, _ => kernel_rfl
        | 2, 4, _, _ => kernel_rfl
        | 3, 0, _, _ => kernel_rfl
        | 3, 1, _, _ => kernel_rfl
        | 3, 2, _, _ => kernel_rfl
        | 3, 3, _, _ => kernel_rfl
        | 3, 4, _, _ => kernel_rfl
        | 4, 0, _, _ => kernel_rfl
        | 4, 1, _, _ => kernel_rfl
        | 4, 2, _, _ => kernel_rfl
        | 4, 3, _, _ => kernel_rfl
        | 4, 4, _, _ => kernel_rfl
        | _ + 5, _, h, _ => omega
        | _, _ + 5, _, h => omega
      refine D.comp (v := .str (word (k1 1) (k2 1))) (y := .int (yw (k1 1) (k2 1))) (l := [.int (yw (k1 0) (k2 0))]) (src' := .leaf (.list 78 2)) (S₁ := ⟨hP1 u k1 k2, [(nx "word", .str (word (k1 1) (k2 1)))]⟩) (S₂ := ⟨hP1 u k1 k2, [(nx "word", .str (word (k1 1) (k2 1)))]⟩) (by kernel_rfl) (by kernel_rfl) ?_ (by kernel_rfl) (by simp) ?_
      · have g1 := h1 1
        have g2 := h2 1
        unfold hP1
        unfold toldW
        generalize k1 1 = a at *
        generalize k2 1 = b at *
        match a, b, g1, g2 with
        | 0, 0, _, _ => kernel_rfl
        | 0, 1, _, _ => kernel_rfl
        | 0, 2, _, _ => kernel_rfl
        | 0, 3, _, _ => kernel_rfl
        | 0, 4, _, _ => kernel_rfl
        | 1, 0, _, _ => kernel_rfl
        | 1, 1, _, _ => kernel_rfl
        | 1, 2, _, _ => kernel_rfl
        | 1, 3, _, _ => kernel_rfl
        | 1, 4, _, _ => kernel_rfl
        | 2, 0, _, _ => kernel_rfl
        | 2, 1, _, _ => kernel_rfl
        | 2, 2, _, _ => kernel_rfl
        | 2, 3, _, _ => kernel_rfl
        | 2, 4, _, _ => kernel_rfl
        | 3, 0, _, _ => kernel_rfl
        | 3, 1, _, _ => kernel_rfl
        | 3, 2, _, _ => kernel_rfl
        | 3, 3, _, _ => kernel_rfl
        | 3, 4, _, _ => kernel_rfl
        | 4, 0, _, _ => kernel_rfl
        | 4, 1, _, _ => kernel_rfl
        | 4, 2, _, _ => kernel_rfl
        | 4, 3, _, _ => kernel_rfl
        | 4, 4, _, _ => kernel_rfl
        | _ + 5, _, h, _ => omega
        | _, _ + 5, _, h => omega
      refine D.comp (v := .str (word (k1 2) (k2 2))) (y := .int (yw (k1 2) (k2 2))) (l := [.int (yw (k1 0) (k2 0)), .int (yw (k1 1) (k2 1))]) (src' := .leaf (.list 78 3)) (S₁ := ⟨hP2 u k1 k2, [(nx "word", .str (word (k1 2) (k2 2)))]⟩) (S₂ := ⟨hP2 u k1 k2, [(nx "word", .str (word (k1 2) (k2 2)))]⟩) (by kernel_rfl) (by kernel_rfl) ?_ (by kernel_rfl) (by simp) ?_
      · have g1 := h1 2
        have g2 := h2 2
        unfold hP2
        unfold toldW
        generalize k1 2 = a at *
        generalize k2 2 = b at *
        match a, b, g1, g2 with
        | 0, 0, _, _ => kernel_rfl
        | 0, 1, _, _ => kernel_rfl
        | 0, 2, _, _ => kernel_rfl
        | 0, 3, _, _ => kernel_rfl
        | 0, 4, _, _ => kernel_rfl
        | 1, 0, _, _ => kernel_rfl
        | 1, 1, _, _ => kernel_rfl
        | 1, 2, _, _ => kernel_rfl
        | 1, 3, _, _ => kernel_rfl
        | 1, 4, _, _ => kernel_rfl
        | 2, 0, _, _ => kernel_rfl
        | 2, 1, _, _ => kernel_rfl
        | 2, 2, _, _ => kernel_rfl
        | 2, 3, _, _ => kernel_rfl
        | 2, 4, _, _ => kernel_rfl
        | 3, 0, _, _ => kernel_rfl
        | 3, 1, _, _ => kernel_rfl
        | 3, 2, _, _ => kernel_rfl
        | 3, 3, _, _ => kernel_rfl
        | 3, 4, _, _ => kernel_rfl
        | 4, 0, _, _ => kernel_rfl
        | 4, 1, _, _ => kernel_rfl
        | 4, 2, _, _ => kernel_rfl
        | 4, 3, _, _ => kernel_rfl
        | 4, 4, _, _ => kernel_rfl
        | _ + 5, _, h, _ => omega
        | _, _ + 5, _, h => omega
      refine D.comp (v := .str (word (k1 3) (k2 3))) (y := .int (yw (k1 3) (k2 3))) (l := [.int (yw (k1 0) (k2 0)), .int (yw (k1 1) (k2 1)), .int (yw (k1 2) (k2 2))]) (src' := .leaf (.list 78 4)) (S₁ := ⟨hP3 u k1 k2, [(nx "word", .str (word (k1 3) (k2 3)))]⟩) (S₂ := ⟨hP3 u k1 k2, [(nx "word", .str (word (k1 3) (k2 3)))]⟩) (by kernel_rfl) (by kernel_rfl) ?_ (by kernel_rfl) (by simp) ?_
      · have g1 := h1 3
        have g2 := h2 3
        unfold hP3
        unfold toldW
        generalize k1 3 = a at *
        generalize k2 3 = b at *
        match a, b, g1, g2 with
        | 0, 0, _, _ => kernel_rfl
        | 0, 1, _, _ => kernel_rfl
        | 0, 2, _, _ => kernel_rfl
        | 0, 3, _, _ => kernel_rfl
        | 0, 4, _, _ => kernel_rfl
        | 1, 0, _, _ => kernel_rfl
        | 1, 1, _, _ => kernel_rfl
        | 1, 2, _, _ => kernel_rfl
        | 1, 3, _, _ => kernel_rfl
        | 1, 4, _, _ => kernel_rfl
        | 2, 0, _, _ => kernel_rfl
        | 2, 1, _, _ => kernel_rfl
        | 2, 2, _, _ => kernel_rfl
        | 2, 3, _, _ => kernel_rfl
        | 2, 4, _, _ => kernel_rfl
        | 3, 0, _, _ => kernel_rfl
        | 3, 1, _, _ => kernel_rfl
        | 3, 2, _, _ => kernel_rfl
        | 3, 3, _, _ => kernel_rfl
        | 3, 4, _, _ => kernel_rfl
        | 4, 0, _, _ => kernel_rfl
        | 4, 1, _, _ => kernel_rfl
        | 4, 2, _, _ => kernel_rfl
        | 4, 3, _, _ => kernel_rfl
        | 4, 4, _, _ => kernel_rfl
        | _ + 5, _, h, _ => omega
        | _, _ + 5, _, h => omega
      refine D.comp (v := .str (word (k1 4) (k2 4))) (y := .int (yw (k1 4) (k2 4))) (l := [.int (yw (k1 0) (k2 0)), .int (yw (k1 1) (k2 1)), .int (yw (k1 2) (k2 2)), .int (yw (k1 3) (k2 3))]) (src' := .leaf (.list 78 5)) (S₁ := ⟨hP4 u k1 k2, [(nx "word", .str (word (k1 4) (k2 4)))]⟩) (S₂ := ⟨hP4 u k1 k2, [(nx "word", .str (word (k1 4) (k2 4)))]⟩) (by kernel_rfl) (by kernel_rfl) ?_ (by kernel_rfl) (by simp) ?_
      · have g1 := h1 4
        have g2 := h2 4
        unfold hP4
        unfold toldW
        generalize k1 4 = a at *
        generalize k2 4 = b at *
        match a, b, g1, g2 with
        | 0, 0, _, _ => kernel_rfl
        | 0, 1, _, _ => kernel_rfl
        | 0, 2, _, _ => kernel_rfl
        | 0, 3, _, _ => kernel_rfl
        | 0, 4, _, _ => kernel_rfl
        | 1, 0, _, _ => kernel_rfl
        | 1, 1, _, _ => kernel_rfl
        | 1, 2, _, _ => kernel_rfl
        | 1, 3, _, _ => kernel_rfl
        | 1, 4, _, _ => kernel_rfl
        | 2, 0, _, _ => kernel_rfl
        | 2, 1, _, _ => kernel_rfl
        | 2, 2, _, _ => kernel_rfl
        | 2, 3, _, _ => kernel_rfl
        | 2, 4, _, _ => kernel_rfl
        | 3, 0, _, _ => kernel_rfl
        | 3, 1, _, _ => kernel_rfl
        | 3, 2, _, _ => kernel_rfl
        | 3, 3, _, _ => kernel_rfl
        | 3, 4, _, _ => kernel_rfl
        | 4, 0, _, _ => kernel_rfl
        | 4, 1, _, _ => kernel_rfl
        | 4, 2, _, _ => kernel_rfl
        | 4, 3, _, _ => kernel_rfl
        | 4, 4, _, _ => kernel_rfl
        | _ + 5, _, h, _ => omega
        | _, _ + 5, _, h => omega
      refine D.comp (v := .str (word (k1 5) (k2 5))) (y := .int (yw (k1 5) (k2 5))) (l := [.int (yw (k1 0) (k2 0)), .int (yw (k1 1) (k2 1)), .int (yw (k1 2) (k2 2)), .int (yw (k1 3) (k2 3)), .int (yw (k1 4) (k2 4))]) (src' := .leaf (.list 78 6)) (S₁ := ⟨hP5 u k1 k2, [(nx "word", .str (word (k1 5) (k2 5)))]⟩) (S₂ := ⟨hP5 u k1 k2, [(nx "word", .str (word (k1 5) (k2 5)))]⟩) (by kernel_rfl) (by kernel_rfl) ?_ (by kernel_rfl) (by simp) ?_
      · have g1 := h1 5
        have g2 := h2 5
        unfold hP5
        unfold toldW
        generalize k1 5 = a at *
        generalize k2 5 = b at *
        match a, b, g1, g2 with
        | 0, 0, _, _ => kernel_rfl
        | 0, 1, _, _ => kernel_rfl
        | 0, 2, _, _ => kernel_rfl
        | 0, 3, _, _ => kernel_rfl
        | 0, 4, _, _ => kernel_rfl
        | 1, 0, _, _ => kernel_rfl
        | 1, 1, _, _ => kernel_rfl
        | 1, 2, _, _ => kernel_rfl
        | 1, 3, _, _ => kernel_rfl
        | 1, 4, _, _ => kernel_rfl
        | 2, 0, _, _ => kernel_rfl
        | 2, 1, _, _ => kernel_rfl
        | 2, 2, _, _ => kernel_rfl
        | 2, 3, _, _ => kernel_rfl
        | 2, 4, _, _ => kernel_rfl
        | 3, 0, _, _ => kernel_rfl
        | 3, 1, _, _ => kernel_rfl
        | 3, 2, _, _ => kernel_rfl
        | 3, 3, _, _ => kernel_rfl
        | 3, 4, _, _ => kernel_rfl
        | 4, 0, _, _ => kernel_rfl
        | 4, 1, _, _ => kernel_rfl
        | 4, 2, _, _ => kernel_rfl
        | 4, 3, _, _ => kernel_rfl
        | 4, 4, _, _ => kernel_rfl
        | _ + 5, _, h, _ => omega
        | _, _ + 5, _, h => omega
      kernel_rfl
    · kernel_rfl
  · rfl
end
end Mine
end
section
open PySem PySem.W PyProof.Rows
set_option Elab.async false
set_option maxRecDepth 100000
set_option linter.all false
set_option autoImplicit false
namespace Mine
noncomputable def pairsG (t : Nat → Nat → AV) : List (Str × AV) := [(nx "ab", t 0 1), (nx "ac", t 0 2), (nx "ad", t 0 3), (nx "ae", t 0 4), (nx "af", t 0 5), (nx "ba", t 1 0), (nx "bc", t 1 2), (nx "bd", t 1 3), (nx "be", t 1 4), (nx "bf", t 1 5), (nx "ca", t 2 0), (nx "cb", t 2 1), (nx "cd", t 2 3), (nx "ce", t 2 4), (nx "cf", t 2 5), (nx "da", t 3 0), (nx "db", t 3 1), (nx "dc", t 3 2), (nx "de", t 3 4), (nx "df", t 3 5), (nx "ea", t 4 0), (nx "eb", t 4 1), (nx "ec", t 4 2), (nx "ed", t 4 3), (nx "ef", t 4 5), (nx "fa", t 5 0), (nx "fb", t 5 1), (nx "fc", t 5 2), (nx "fd", t 5 3), (nx "fe", t 5 4)]
noncomputable def HS (u : Nat → AO) (t : Nat → Nat → AV) : List AO := [u 0, u 1, u 2, u 3, u 4, u 5, u 6, u 7, u 8, u 9, u 10, u 11, u 12, u 13, u 14, u 15, u 16, u 17, u 18, u 19, u 20, u 21, u 22, u 23, u 24, u 25, u 26, u 27, u 28, u 29, u 30, u 31, u 32, u 33, u 34, u 35, u 36, u 37, u 38, u 39, u 40, u 41, u 42, u 43, u 44, u 45, u 46, u 47, u 48, u 49, u 50, u 51, u 52, u 53, u 54, u 55, u 56, .list (rows15.map .str), u 58, u 59, u 60, u 61, u 62, u 63, u 64, u 65, u 66, u 67, u 68, u 69, u 70, u 71, u 72, u 73, u 74, u 75, u 76, u 77, u 78, u 79, .dict (pairsG t), u 81]
/-- small enough -/
noncomputable def Bd' (m : Nat) (i : Int) : Prop := i.natAbs ≤ 2 ^ m
theorem Bd'.mul {a b : Nat} {i j : Int} (h : Bd' a i) (k : Bd' b j) : Bd' (a + b) (i * j) := by
  unfold Bd' at *
  rw [Int.natAbs_mul, Nat.pow_add]
  exact Nat.mul_le_mul h k
theorem Bd'.le {a b : Nat} {i : Int} (h : Bd' a i) (l : a ≤ b) : Bd' b i := Nat.le_trans h (Nat.pow_le_pow_right (by decide) l)
theorem bd_one : Bd' 0 1 := by unfold Bd'; decide
theorem bits_le {m : Nat} {i : Int} (h : Bd' m i) : Builtin.Int.intBits i ≤ m + 1 := by
  unfold Builtin.Int.intBits
  split
  · omega
  · rename_i hn
    have h0 : i.natAbs ≠ 0 := by
      intro z
      apply hn
      simp [Int.natAbs_eq_zero.mp z]
    have := (Nat.log2_lt (k := m + 1) h0).mpr (Nat.lt_of_le_of_lt h (Nat.pow_lt_pow_right (by decide) (by omega)))
    omega
theorem bits_ok {m : Nat} {i : Int} (h : Bd' m i) (hm : m ≤ 1000) : Builtin.Int.intBits i ≤ 2 ^ 20 :=
  Nat.le_trans (bits_le h) (by have : (1001 : Nat) ≤ 2 ^ 20 := by decide
                               omega)
theorem mul_ok {a b : Nat} {i j : Int} (h : Bd' a i) (k : Bd' b j) (ha : a ≤ 1000) (hb : b ≤ 1000) : Builtin.Int.intBits i ≤ 2 ^ 20 ∧ Builtin.Int.intBits j ≤ 2 ^ 20 :=
  ⟨bits_ok h ha, bits_ok k hb⟩
theorem bd_div {m : Nat} {i j : Int} (h : Bd' m i) (hj : 0 < j) : Bd' m (i.fdiv j) := by
  unfold Bd' at *
  refine Nat.le_trans ?_ h
  rw [Int.fdiv_eq_ediv_of_nonneg _ (by omega)]
  exact Int.natAbs_ediv_le_natAbs _ _
theorem div_ok {m : Nat} {j : Int} (h : Bd' m j) (hj : 0 < j) (hm : m ≤ 29) : j ≠ 0 ∧ j.natAbs < 1073741824 := by
  refine ⟨by omega, Nat.lt_of_le_of_lt h ?_⟩
  have := Nat.pow_le_pow_right (n := 2) (by decide) hm
  have e : (2 : Nat) ^ 29 = 536870912 := by decide
  omega
noncomputable def pOne : Nat → Nat
  | 0 => 1
  | 1 => 2
  | 2 => 2
  | 3 => 3
  | 4 => 3
  | 5 => 3
  | 6 => 4
  | 7 => 4
  | 8 => 4
  | 9 => 4
  | 10 => 5
  | 11 => 5
  | 12 => 5
  | 13 => 5
  | _ => 5
noncomputable def pTwo : Nat → Nat
  | 0 => 0
  | 1 => 0
  | 2 => 1
  | 3 => 0
  | 4 => 1
  | 5 => 2
  | 6 => 0
  | 7 => 1
  | 8 => 2
  | 9 => 3
  | 10 => 0
  | 11 => 1
  | 12 => 2
  | 13 => 3
  | _ => 4
noncomputable def rE : Nat → Nat → Nat
  | 0, 0 => 0
  | 0, 1 => 2
  | 0, _ => 4
  | 1, 0 => 0
  | 1, 1 => 4
  | 1, _ => 3
  | 2, 0 => 0
  | 2, 1 => 2
  | 2, _ => 3
  | 3, 0 => 2
  | 3, 1 => 1
  | 3, _ => 4
  | 4, 0 => 2
  | 4, 1 => 4
  | 4, _ => 3
  | 5, 0 => 2
  | 5, 1 => 1
  | 5, _ => 3
  | 6, 0 => 0
  | 6, 1 => 1
  | 6, _ => 4
  | 7, 0 => 0
  | 7, 1 => 4
  | 7, _ => 2
  | 8, 0 => 0
  | 8, 1 => 1
  | 8, _ => 2
  | 9, 0 => 4
  | 9, 1 => 1
  | 9, _ => 3
  | 10, 0 => 4
  | 10, 1 => 3
  | 10, _ => 2
  | 11, 0 => 4
  | 11, 1 => 1
  | 11, _ => 2
  | 12, 0 => 0
  | 12, 1 => 1
  | 12, _ => 3
  | 13, 0 => 0
  | 13, 1 => 3
  | 13, _ => 2
  | _, 0 => 0
  | _, 1 => 1
  | _, _ => 2
noncomputable def rL : Nat → Nat → Nat
  | 0, 0 => 1
  | 0, 1 => 3
  | 0, _ => 5
  | 1, 0 => 1
  | 1, 1 => 2
  | 1, _ => 5
  | 2, 0 => 1
  | 2, 1 => 5
  | 2, _ => 4
  | 3, 0 => 0
  | 3, 1 => 3
  | 3, _ => 5
  | 4, 0 => 0
  | 4, 1 => 1
  | 4, _ => 5
  | 5, 0 => 0
  | 5, 1 => 5
  | 5, _ => 4
  | 6, 0 => 3
  | 6, 1 => 2
  | 6, _ => 5
  | 7, 0 => 3
  | 7, 1 => 1
  | 7, _ => 5
  | 8, 0 => 3
  | 8, 1 => 5
  | 8, _ => 4
  | 9, 0 => 0
  | 9, 1 => 2
  | 9, _ => 5
  | 10, 0 => 0
  | 10, 1 => 1
  | 10, _ => 5
  | 11, 0 => 0
  | 11, 1 => 5
  | 11, _ => 3
  | 12, 0 => 5
  | 12, 1 => 2
  | 12, _ => 4
  | 13, 0 => 5
  | 13, 1 => 1
  | 13, _ => 4
  | _, 0 => 5
  | _, 1 => 4
  | _, _ => 3
noncomputable def rX : Nat → Str
  | 0 => nx "abcdef"
  | 1 => nx "abecdf"
  | 2 => nx "abcfde"
  | 3 => nx "cabdef"
  | 4 => nx "caebdf"
  | 5 => nx "cabfde"
  | 6 => nx "adbcef"
  | 7 => nx "adebcf"
  | 8 => nx "adbfce"
  | 9 => nx "eabcdf"
  | 10 => nx "eadbcf"
  | 11 => nx "eabfcd"
  | 12 => nx "afbcde"
  | 13 => nx "afdbce"
  | _ => nx "afbecd"
/-- a product of some values -/
noncomputable def prd (f : Nat → Int) : Nat → Int
  | 0 => 1
  | k + 1 => prd f k * f k
noncomputable def smm (f : Nat → Int) : Nat → Int
  | 0 => 0
  | k + 1 => smm f k + f k
theorem bd_prd {m : Nat} {f : Nat → Int} (h : ∀ i, Bd' m (f i)) : ∀ k, Bd' (m * k) (prd f k)
  | 0 => bd_one
  | k + 1 => (bd_prd h k).mul (h k)
theorem prd_pos {f : Nat → Int} (h : ∀ i, 0 < f i) : ∀ k, 0 < prd f k
  | 0 => by show (0 : Int) < 1; decide
  | k + 1 => Int.mul_pos (prd_pos h k) (h k)
noncomputable def wh (b : Nat → Nat → Int) : Nat → Int := prd fun k => b (pOne k) (pTwo k)
noncomputable def pr (f : Nat → Nat → Int) (i : Nat) : Nat → Int := prd fun j => f (rE i j) (rL i j)
noncomputable def sgs (s : Nat → Nat → Int) : Nat → Int := smm fun i => pr s i 3
noncomputable def tot (d b : Nat → Nat → Int) : Nat → Int := smm fun i => pr d i 3 * (wh b 15).fdiv (pr b i 3)
noncomputable def tt3 (s d b : Nat → Nat → Int) (e l : Nat) : AV := .tup [.int (s e l), .int (d e l), .int (b e l)]
theorem lt15 {Q : Nat → Prop} (h0 : Q 0) (h1 : Q 1) (h2 : Q 2) (h3 : Q 3) (h4 : Q 4) (h5 : Q 5) (h6 : Q 6) (h7 : Q 7) (h8 : Q 8) (h9 : Q 9) (h10 : Q 10) (h11 : Q 11) (h12 : Q 12) (h13 : Q 13) (h14 : Q 14) : ∀ i, i < 15 → Q i
  | 0, _ => h0 | 1, _ => h1 | 2, _ => h2 | 3, _ => h3 | 4, _ => h4 | 5, _ => h5 | 6, _ => h6 | 7, _ => h7 | 8, _ => h8 | 9, _ => h9 | 10, _ => h10 | 11, _ => h11 | 12, _ => h12 | 13, _ => h13 | 14, _ => h14
  | i + 15, h => absurd h (by omega)
theorem D.list15 {a : Nat} {Fa : AV → St → Option St} {Fb Fe : St → Option (AFl × St)} {S A : Nat → St} {X : Nat → AV} {r : Option (AFl × St)} (h1 : ∀ i, i < 15 → inext (S i).hp (.leaf (.list a i)) = some (some (X i, .leaf (.list a (i + 1))))) (h2 : ∀ i, i < 15 → Fa (X i) (S i) = some (A i)) (h3 : ∀ i, i < 15 → Fb (A i) = some (.next, S (i + 1)))
    (h4 : inext (S 15).hp (.leaf (.list a 15)) = some none) (h5 : Fe (S 15) = r) : loopF Fa Fb Fe 64 (.leaf (.list a 0)) (S 0) = r := by
  have key : ∀ k, k ≤ 15 → loopF Fa Fb Fe (49 + k) (.leaf (.list a (15 - k))) (S (15 - k)) = r := by
    intro k
    induction k with
    | zero => intro _; exact D.done h4 h5
    | succ k ih =>
      intro hk
      have hl : 15 - (k + 1) < 15 := by omega
      have e : 15 - (k + 1) + 1 = 15 - k := by omega
      refine D.loop (k := 49 + k) (h1 _ hl) (h2 _ hl) (h3 _ hl) ?_
      rw [e]
      exact ih (by omega)
  exact key 15 (by omega)
noncomputable def SL (H : List AO) (w sg tt : Int) (R : List (Str × AV)) : St := ⟨H, (nx "rows", .obj 57) :: (nx "pairs", .obj 80) :: (nx "whole", .int w) :: (nx "signs", .int sg) :: (nx "total", .int tt) :: R⟩
section
variable (u : Nat → AO) (s d b : Nat → Nat → Int)
noncomputable def SW (k : Nat) (R : List (Str × AV)) : St := SL (HS u (tt3 s d b)) (wh b k) 0 0 R
/-- in the i-th row -/
noncomputable def SR (i : Nat) (R : List (Str × AV)) : St := SL (HS u (tt3 s d b)) (wh b 15) (sgs s i) (tot d b i) ((nx "one", .int 5) :: (nx "two", .int 4) :: R)
noncomputable def RR (i i' j : Nat) (R : List (Str × AV)) : List (Str × AV) := (nx "row", .str (rX i)) :: (nx "sign", .int (pr s i' j)) :: (nx "less", .int (pr d i' j)) :: (nx "both", .int (pr b i' j)) :: R
noncomputable def RT (i j k : Nat) : List (Str × AV) := [(nx "spot", .int k), (nx "told", tt3 s d b (rE i j) (rL i j))]
noncomputable def S0 : Nat → St
  | 0 => SR u s d b 0 []
  | i + 1 => SR u s d b (i + 1) (RR s d b i i 3 (RT s d b i 2 4))
noncomputable def A0' : Nat → St
  | 0 => SR u s d b 0 [(nx "row", .str (rX 0))]
  | i + 1 => SR u s d b (i + 1) (RR s d b (i + 1) i 3 (RT s d b i 2 4))
noncomputable def B0 : Nat → St
  | 0 => SR u s d b 0 (RR s d b 0 0 0 [])
  | i + 1 => SR u s d b (i + 1) (RR s d b (i + 1) (i + 1) 0 (RT s d b i 2 4))
noncomputable def C0 : Nat → Nat → St
  | 0, 0 => SR u s d b 0 (RR s d b 0 0 0 [(nx "spot", .int 0)])
  | i + 1, 0 => SR u s d b (i + 1) (RR s d b (i + 1) (i + 1) 0 (RT s d b i 2 0))
  | i, j + 1 => SR u s d b i (RR s d b i i (j + 1) (RT s d b i j (2 * (j + 1))))
noncomputable def C1 (i j : Nat) : St := SR u s d b i (RR s d b i i j (RT s d b i j (2 * j)))
noncomputable def C2 (i j : Nat) : St := SR u s d b i (RR s d b i i (j + 1) (RT s d b i j (2 * j)))
end
section
variable {G : Glob} {n : Nat} {mg mb mn mh : Names} {script : List Int}
set_option maxHeartbeats 40000000 in
theorem ev_sums (P : Txt G mg mb mn mh script) (u : Nat → AO) (s d b : Nat → Nat → Int) (hs : ∀ e l, Bd' 1 (s e l)) (hd : ∀ e l, Bd' 6 (d e l)) (hb : ∀ e l, Bd' 6 (b e l)) (hp : ∀ e l, 0 < b e l) : F_sums P n (HS u (tt3 s d b)) [.obj 57, .obj 80] [] = some (.tup [.int (sgs s 15), .int (tot d b 15)], HS u (tt3 s d b)) := by
  have bw : ∀ k, Bd' (6 * k) (wh b k) := bd_prd fun k => hb _ _
  have bs : ∀ i k, Bd' (1 * k) (pr s i k) := fun i => bd_prd fun k => hs _ _
  have bd : ∀ i k, Bd' (6 * k) (pr d i k) := fun i => bd_prd fun k => hd _ _
  have bb : ∀ i k, Bd' (6 * k) (pr b i k) := fun i => bd_prd fun k => hb _ _
  have bp : ∀ i k, 0 < pr b i k := fun i => prd_pos fun k => hp _ _
  unfold F_sums
  apply D.fn (S := ⟨HS u (tt3 s d b), [(nx "rows", .obj 57), (nx "pairs", .obj 80)]⟩) (S' := S0 u s d b 15)
  · rfl
  · kernel_rfl
  · unfold B_sums
    dsimp only
    refine D.next (S₁ := SW u s d b 0 []) (by kernel_rfl) ?_
    refine D.next (S₁ := S0 u s d b 0) ?_ ?_
    · skip
      refine D.for (src := .leaf (.seq [.int 0, .int 1, .int 2, .int 3, .int 4, .int 5])) (S₁ := (SW u s d b 0 [])) (by kernel_rfl) (by kernel_rfl) ?_
      refine D.loop (v := .int 0) (src' := .leaf (.seq [.int 1, .int 2, .int 3, .int 4, .int 5])) (S₁ := (SW u s d b 0 [(nx "one", .int 0)])) (S₂ := (SW u s d b 0 [(nx "one", .int 0)])) (by kernel_rfl) (by kernel_rfl) ?_ ?_
      · refine D.next (S₁ := (SW u s d b 0 [(nx "one", .int 0)])) ?_ rfl
        refine D.for (src := .leaf (.seq [])) (S₁ := (SW u s d b 0 [(nx "one", .int 0)])) (by kernel_rfl) (by kernel_rfl) ?_
        exact D.done (by kernel_rfl) rfl
      refine D.loop (v := .int 1) (src' := .leaf (.seq [.int 2, .int 3, .int 4, .int 5])) (S₁ := (SW u s d b 0 [(nx "one", .int 1)])) (S₂ := (SW u s d b 1 [(nx "one", .int 1), (nx "two", .int 0)])) (by kernel_rfl) (by kernel_rfl) ?_ ?_
      · refine D.next (S₁ := (SW u s d b 1 [(nx "one", .int 1), (nx "two", .int 0)])) ?_ rfl
        refine D.for (src := .leaf (.seq [.int 0])) (S₁ := (SW u s d b 0 [(nx "one", .int 1)])) (by kernel_rfl) (by kernel_rfl) ?_
        refine D.loop (v := .int 0) (src' := .leaf (.seq [])) (S₁ := (SW u s d b 0 [(nx "one", .int 1), (nx "two", .int 0)])) (S₂ := (SW u s d b 1 [(nx "one", .int 1), (nx "two", .int 0)])) (by kernel_rfl) (by kernel_rfl) ?_ ?_
        · refine D.next (S₁ := (SW u s d b 1 [(nx "one", .int 1), (nx "two", .int 0)])) ?_ rfl
          refine D.asg (S₁ := (SW u s d b 0 [(nx "one", .int 1), (nx "two", .int 0)])) (v := .int (wh b 1)) ?_ (by kernel_rfl)
          exact D.call (S₁ := (SW u s d b 0 [(nx "one", .int 1), (nx "two", .int 0)])) (S₂ := (SW u s d b 0 [(nx "one", .int 1), (nx "two", .int 0)])) (as := [.int (wh b 0), .int (b 1 0)]) (ks := []) (by kernel_rfl) (by kernel_rfl) rfl (if_pos (mul_ok (bw 0) (hb _ _) (by decide) (by decide)))
        exact D.done (by kernel_rfl) rfl
      refine D.loop (v := .int 2) (src' := .leaf (.seq [.int 3, .int 4, .int 5])) (S₁ := (SW u s d b 1 [(nx "one", .int 2), (nx "two", .int 0)])) (S₂ := (SW u s d b 3 [(nx "one", .int 2), (nx "two", .int 1)])) (by kernel_rfl) (by kernel_rfl) ?_ ?_
      · refine D.next (S₁ := (SW u s d b 3 [(nx "one", .int 2), (nx "two", .int 1)])) ?_ rfl
        refine D.for (src := .leaf (.seq [.int 0, .int 1])) (S₁ := (SW u s d b 1 [(nx "one", .int 2), (nx "two", .int 0)])) (by kernel_rfl) (by kernel_rfl) ?_
        refine D.loop (v := .int 0) (src' := .leaf (.seq [.int 1])) (S₁ := (SW u s d b 1 [(nx "one", .int 2), (nx "two", .int 0)])) (S₂ := (SW u s d b 2 [(nx "one", .int 2), (nx "two", .int 0)])) (by kernel_rfl) (by kernel_rfl) ?_ ?_
        · refine D.next (S₁ := (SW u s d b 2 [(nx "one", .int 2), (nx "two", .int 0)])) ?_ rfl
          refine D.asg (S₁ := (SW u s d b 1 [(nx "one", .int 2), (nx "two", .int 0)])) (v := .int (wh b 2)) ?_ (by kernel_rfl)
          exact D.call (S₁ := (SW u s d b 1 [(nx "one", .int 2), (nx "two", .int 0)])) (S₂ := (SW u s d b 1 [(nx "one", .int 2), (nx "two", .int 0)])) (as := [.int (wh b 1), .int (b 2 0)]) (ks := []) (by kernel_rfl) (by kernel_rfl) rfl (if_pos (mul_ok (bw 1) (hb _ _) (by decide) (by decide)))
        refine D.loop (v := .int 1) (src' := .leaf (.seq [])) (S₁ := (SW u s d b 2 [(nx "one", .int 2), (nx "two", .int 1)])) (S₂ := (SW u s d b 3 [(nx "one", .int 2), (nx "two", .int 1)])) (by kernel_rfl) (by kernel_rfl) ?_ ?_
        · refine D.next (S₁ := (SW u s d b 3 [(nx "one", .int 2), (nx "two", .int 1)])) ?_ rfl
          refine D.asg (S₁ := (SW u s d b 2 [(nx "one", .int 2), (nx "two", .int 1)])) (v := .int (wh b 3)) ?_ (by kernel_rfl)
          exact D.call (S₁ := (SW u s d b 2 [(nx "one", .int 2), (nx "two", .int 1)])) (S₂ := (SW u s d b 2 [(nx "one", .int 2), (nx "two", .int 1)])) (as := [.int (wh b 2), .int (b 2 1)]) (ks := []) (by kernel_rfl) (by kernel_rfl) rfl (if_pos (mul_ok (bw 2) (hb _ _) (by decide) (by decide)))
        exact D.done (by kernel_rfl) rfl
      refine D.loop (v := .int 3) (src' := .leaf (.seq [.int 4, .int 5])) (S₁ := (SW u s d b 3 [(nx "one", .int 3), (nx "two", .int 1)])) (S₂ := (SW u s d b 6 [(nx "one", .int 3), (nx "two", .int 2)])) (by kernel_rfl) (by kernel_rfl) ?_ ?_
      · refine D.next (S₁ := (SW u s d b 6 [(nx "one", .int 3), (nx "two", .int 2)])) ?_ rfl
        refine D.for (src := .leaf (.seq [.int 0, .int 1, .int 2])) (S₁ := (SW u s d b 3 [(nx "one", .int 3), (nx "two", .int 1)])) (by kernel_rfl) (by kernel_rfl) ?_
        refine D.loop (v := .int 0) (src' := .leaf (.seq [.int 1, .int 2])) (S₁ := (SW u s d b 3 [(nx "one", .int 3), (nx "two", .int 0)])) (S₂ := (SW u s d b 4 [(nx "one", .int 3), (nx "two", .int 0)])) (by kernel_rfl) (by kernel_rfl) ?_ ?_
        · refine D.next (S₁ := (SW u s d b 4 [(nx "one", .int 3), (nx "two", .int 0)])) ?_ rfl
          refine D.asg (S₁ := (SW u s d b 3 [(nx "one", .int 3), (nx "two", .int 0)])) (v := .int (wh b 4)) ?_ (by kernel_rfl)
          exact D.call (S₁ := (SW u s d b 3 [(nx "one", .int 3), (nx "two", .int 0)])) (S₂ := (SW u s d b 3 [(nx "one", .int 3), (nx "two", .int 0)])) (as := [.int (wh b 3), .int (b 3 0)]) (ks := []) (by kernel_rfl) (by kernel_rfl) rfl (if_pos (mul_ok (bw 3) (hb _ _) (by decide) (by decide)))
        refine D.loop (v := .int 1) (src' := .leaf (.seq [.int 2])) (S₁ := (SW u s d b 4 [(nx "one", .int 3), (nx "two", .int 1)])) (S₂ := (SW u s d b 5 [(nx "one", .int 3), (nx "two", .int 1)])) (by kernel_rfl) (by kernel_rfl) ?_ ?_
        · refine D.next (S₁ := (SW u s d b 5 [(nx "one", .int 3), (nx "two", .int 1)])) ?_ rfl
          refine D.asg (S₁ := (SW u s d b 4 [(nx "one", .int 3), (nx "two", .int 1)])) (v := .int (wh b 5)) ?_ (by kernel_rfl)
          exact D.call (S₁ := (SW u s d b 4 [(nx "one", .int 3), (nx "two", .int 1)])) (S₂ := (SW u s d b 4 [(nx "one", .int 3), (nx "two", .int 1)])) (as := [.int (wh b 4), .int (b 3 1)]) (ks := []) (by kernel_rfl) (by kernel_rfl) rfl (if_pos (mul_ok (bw 4) (hb _ _) (by decide) (by decide)))
        refine D.loop (v := .int 2) (src' := .leaf (.seq [])) (S₁ := (SW u s d b 5 [(nx "one", .int 3), (nx "two", .int 2)])) (S₂ := (SW u s d b 6 [(nx "one", .int 3), (nx "two", .int 2)])) (by kernel_rfl) (by kernel_rfl) ?_ ?_
        · refine D.next (S₁ := (SW u s d b 6 [(nx "one", .int 3), (nx "two", .int 2)])) ?_ rfl
          refine D.asg (S₁ := (SW u s d b 5 [(nx "one", .int 3), (nx "two", .int 2)])) (v := .int (wh b 6)) ?_ (by kernel_rfl)
          exact D.call (S₁ := (SW u s d b 5 [(nx "one", .int 3), (nx "two", .int 2)])) (S₂ := (SW u s d b 5 [(nx "one", .int 3), (nx "two", .int 2)])) (as := [.int (wh b 5), .int (b 3 2)]) (ks := []) (by kernel_rfl) (by kernel_rfl) rfl (if_pos (mul_ok (bw 5) (hb _ _) (by decide) (by decide)))
        exact D.done (by kernel_rfl) rfl
      refine D.loop (v := .int 4) (src' := .leaf (.seq [.int 5])) (S₁ := (SW u s d b 6 [(nx "one", .int 4), (nx "two", .int 2)])) (S₂ := (SW u s d b 10 [(nx "one", .int 4), (nx "two", .int 3)])) (by kernel_rfl) (by kernel_rfl) ?_ ?_
      · refine D.next (S₁ := (SW u s d b 10 [(nx "one", .int 4), (nx "two", .int 3)])) ?_ rfl
        refine D.for (src := .leaf (.seq [.int 0, .int 1, .int 2, .int 3])) (S₁ := (SW u s d b 6 [(nx "one", .int 4), (nx "two", .int 2)])) (by kernel_rfl) (by kernel_rfl) ?_
        refine D.loop (v := .int 0) (src' := .leaf (.seq [.int 1, .int 2, .int 3])) (S₁ := (SW u s d b 6 [(nx "one", .int 4), (nx "two", .int 0)])) (S₂ := (SW u s d b 7 [(nx "one", .int 4), (nx "two", .int 0)])) (by kernel_rfl) (by kernel_rfl) ?_ ?_
        · refine D.next (S₁ := (SW u s d b 7 [(nx "one", .int 4), (nx "two", .int 0)])) ?_ rfl
          refine D.asg (S₁ := (SW u s d b 6 [(nx "one", .int 4), (nx "two", .int 0)])) (v := .int (wh b 7)) ?_ (by kernel_rfl)
          exact D.call (S₁ := (SW u s d b 6 [(nx "one", .int 4), (nx "two", .int 0)])) (S₂ := (SW u s d b 6 [(nx "one", .int 4), (nx "two", .int 0)])) (as := [.int (wh b 6), .int (b 4 0)]) (ks := []) (by kernel_rfl) (by kernel_rfl) rfl (if_pos (mul_ok (bw 6) (hb _ _) (by decide) (by decide)))
        refine D.loop (v := .int 1) (src' := .leaf (.seq [.int 2, .int 3])) (S₁ := (SW u s d b 7 [(nx "one", .int 4), (nx "two", .int 1)])) (S₂ := (SW u s d b 8 [(nx "one", .int 4), (nx "two", .int 1)])) (by kernel_rfl) (by kernel_rfl) ?_ ?_
        · refine D.next (S₁ := (SW u s d b 8 [(nx "one", .int 4), (nx "two", .int 1)])) ?_ rfl
          refine D.asg (S₁ := (SW u s d b 7 [(nx "one", .int 4), (nx "two", .int 1)])) (v := .int (wh b 8)) ?_ (by kernel_rfl)
          exact D.call (S₁ := (SW u s d b 7 [(nx "one", .int 4), (nx "two", .int 1)])) (S₂ := (SW u s d b 7 [(nx "one", .int 4), (nx "two", .int 1)])) (as := [.int (wh b 7), .int (b 4 1)]) (ks := []) (by kernel_rfl) (by kernel_rfl) rfl (if_pos (mul_ok (bw 7) (hb _ _) (by decide) (by decide)))
        refine D.loop (v := .int 2) (src' := .leaf (.seq [.int 3])) (S₁ := (SW u s d b 8 [(nx "one", .int 4), (nx "two", .int 2)])) (S₂ := (SW u s d b 9 [(nx "one", .int 4), (nx "two", .int 2)])) (by kernel_rfl) (by kernel_rfl) ?_ ?_
        · refine D.next (S₁ := (SW u s d b 9 [(nx "one", .int 4), (nx "two", .int 2)])) ?_ rfl
          refine D.asg (S₁ := (SW u s d b 8 [(nx "one", .int 4), (nx "two", .int 2)])) (v := .int (wh b 9)) ?_ (by kernel_rfl)
          exact D.call (S₁ := (SW u s d b 8 [(nx "one", .int 4), (nx "two", .int 2)])) (S₂ := (SW u s d b 8 [(nx "one", .int 4), (nx "two", .int 2)])) (as := [.int (wh b 8), .int (b 4 2)]) (ks := []) (by kernel_rfl) (by kernel_rfl) rfl (if_pos (mul_ok (bw 8) (hb _ _) (by decide) (by decide)))
        refine D.loop (v := .int 3) (src' := .leaf (.seq [])) (S₁ := (SW u s d b 9 [(nx "one", .int 4), (nx "two", .int 3)])) (S₂ := (SW u s d b 10 [(nx "one", .int 4), (nx "two", .int 3)])) (by kernel_rfl) (by kernel_rfl) ?_ ?_
        · refine D.next (S₁ := (SW u s d b 10 [(nx "one", .int 4), (nx "two", .int 3)])) ?_ rfl
          refine D.asg (S₁ := (SW u s d b 9 [(nx "one", .int 4), (nx "two", .int 3)])) (v := .int (wh b 10)) ?_ (by kernel_rfl)
          exact D.call (S₁ := (SW u s d b 9 [(nx "one", .int 4), (nx "two", .int 3)])) (S₂ := (SW u s d b 9 [(nx "one", .int 4), (nx "two", .int 3)])) (as := [.int (wh b 9), .int (b 4 3)]) (ks := []) (by kernel_rfl) (by kernel_rfl) rfl (if_pos (mul_ok (bw 9) (hb _ _) (by decide) (by decide)))
        exact D.done (by kernel_rfl) rfl
      refine D.loop (v := .int 5) (src' := .leaf (.seq [])) (S₁ := (SW u s d b 10 [(nx "one", .int 5), (nx "two", .int 3)])) (S₂ := (SW u s d b 15 [(nx "one", .int 5), (nx "two", .int 4)])) (by kernel_rfl) (by kernel_rfl) ?_ ?_
      · refine D.next (S₁ := (SW u s d b 15 [(nx "one", .int 5), (nx "two", .int 4)])) ?_ rfl
        refine D.for (src := .leaf (.seq [.int 0, .int 1, .int 2, .int 3, .int 4])) (S₁ := (SW u s d b 10 [(nx "one", .int 5), (nx "two", .int 3)])) (by kernel_rfl) (by kernel_rfl) ?_
        refine D.loop (v := .int 0) (src' := .leaf (.seq [.int 1, .int 2, .int 3, .int 4])) (S₁ := (SW u s d b 10 [(nx "one", .int 5), (nx "two", .int 0)])) (S₂ := (SW u s d b 11 [(nx "one", .int 5), (nx "two", .int 0)])) (by kernel_rfl) (by kernel_rfl) ?_ ?_
        · refine D.next (S₁ := (SW u s d b 11 [(nx "one", .int 5), (nx "two", .int 0)])) ?_ rfl
          refine D.asg (S₁ := (SW u s d b 10 [(nx "one", .int 5), (nx "two", .int 0)])) (v := .int (wh b 11)) ?_ (by kernel_rfl)
          exact D.call (S₁ := (SW u s d b 10 [(nx "one", .int 5), (nx "two", .int 0)])) (S₂ := (SW u s d b 10 [(nx "one", .int 5), (nx "two", .int 0)])) (as := [.int (wh b 10), .int (b 5 0)]) (ks := []) (by kernel_rfl) (by kernel_rfl) rfl (if_pos (mul_ok (bw 10) (hb _ _) (by decide) (by decide)))
        refine D.loop (v := .int 1) (src' := .leaf (.seq [.int 2, .int 3, .int 4])) (S₁ := (SW u s d b 11 [(nx "one", .int 5), (nx "two", .int 1)])) (S₂ := (SW u s d b 12 [(nx "one", .int 5), (nx "two", .int 1)])) (by kernel_rfl) (by kernel_rfl) ?_ ?_
        · refine D.next (S₁ := (SW u s d b 12 [(nx "one", .int 5), (nx "two", .int 1)])) ?_ rfl
          refine D.asg (S₁ := (SW u s d b 11 [(nx "one", .int 5), (nx "two", .int 1)])) (v := .int (wh b 12)) ?_ (by kernel_rfl)
          exact D.call (S₁ := (SW u s d b 11 [(nx "one", .int 5), (nx "two", .int 1)])) (S₂ := (SW u s d b 11 [(nx "one", .int 5), (nx "two", .int 1)])) (as := [.int (wh b 11), .int (b 5 1)]) (ks := []) (by kernel_rfl) (by kernel_rfl) rfl (if_pos (mul_ok (bw 11) (hb _ _) (by decide) (by decide)))
        refine D.loop (v := .int 2) (src' := .leaf (.seq [.int 3, .int 4])) (S₁ := (SW u s d b 12 [(nx "one", .int 5), (nx "two", .int 2)])) (S₂ := (SW u s d b 13 [(nx "one", .int 5), (nx "two", .int 2)])) (by kernel_rfl) (by kernel_rfl) ?_ ?_
        · refine D.next (S₁ := (SW u s d b 13 [(nx "one", .int 5), (nx "two", .int 2)])) ?_ rfl
          refine D.asg (S₁ := (SW u s d b 12 [(nx "one", .int 5), (nx "two", .int 2)])) (v := .int (wh b 13)) ?_ (by kernel_rfl)
          exact D.call (S₁ := (SW u s d b 12 [(nx "one", .int 5), (nx "two", .int 2)])) (S₂ := (SW u s d b 12 [(nx "one", .int 5), (nx "two", .int 2)])) (as := [.int (wh b 12), .int (b 5 2)]) (ks := []) (by kernel_rfl) (by kernel_rfl) rfl (if_pos (mul_ok (bw 12) (hb _ _) (by decide) (by decide)))
        refine D.loop (v := .int 3) (src' := .leaf (.seq [.int 4])) (S₁ := (SW u s d b 13 [(nx "one", .int 5), (nx "two", .int 3)])) (S₂ := (SW u s d b 14 [(nx "one", .int 5), (nx "two", .int 3)])) (by kernel_rfl) (by kernel_rfl) ?_ ?_
        · refine D.next (S₁ := (SW u s d b 14 [(nx "one", .int 5), (nx "two", .int 3)])) ?_ rfl
          refine D.asg (S₁ := (SW u s d b 13 [(nx "one", .int 5), (nx "two", .int 3)])) (v := .int (wh b 14)) ?_ (by kernel_rfl)
          exact D.call (S₁ := (SW u s d b 13 [(nx "one", .int 5), (nx "two", .int 3)])) (S₂ := (SW u s d b 13 [(nx "one", .int 5), (nx "two", .int 3)])) (as := [.int (wh b 13), .int (b 5 3)]) (ks := []) (by kernel_rfl) (by kernel_rfl) rfl (if_pos (mul_ok (bw 13) (hb _ _) (by decide) (by decide)))
        refine D.loop (v := .int 4) (src' := .leaf (.seq [])) (S₁ := (SW u s d b 14 [(nx "one", .int 5), (nx "two", .int 4)])) (S₂ := (SW u s d b 15 [(nx "one", .int 5), (nx "two", .int 4)])) (by kernel_rfl) (by kernel_rfl) ?_ ?_
        · refine D.next (S₁ := (SW u s d b 15 [(nx "one", .int 5), (nx "two", .int 4)])) ?_ rfl
          refine D.asg (S₁ := (SW u s d b 14 [(nx "one", .int 5), (nx "two", .int 4)])) (v := .int (wh b 15)) ?_ (by kernel_rfl)
          exact D.call (S₁ := (SW u s d b 14 [(nx "one", .int 5), (nx "two", .int 4)])) (S₂ := (SW u s d b 14 [(nx "one", .int 5), (nx "two", .int 4)])) (as := [.int (wh b 14), .int (b 5 4)]) (ks := []) (by kernel_rfl) (by kernel_rfl) rfl (if_pos (mul_ok (bw 14) (hb _ _) (by decide) (by decide)))
        exact D.done (by kernel_rfl) rfl
      exact D.done (by kernel_rfl) rfl
    refine D.next (S₁ := S0 u s d b 15) ?_ (D.stop (D.ret (by kernel_rfl)))
    refine D.for (src := .leaf (.list 57 0)) (S₁ := S0 u s d b 0) (by kernel_rfl) (by kernel_rfl) ?_
    refine D.list15 (S := S0 u s d b) (A := A0' u s d b) (X := fun i => .str (rX i)) (by apply lt15 <;> kernel_rfl) (by apply lt15 <;> kernel_rfl) ?_ (by kernel_rfl) rfl
    intro i hi
    refine D.next (S₁ := B0 u s d b i) (by revert i; apply lt15 <;> kernel_rfl) ?_
    refine D.next (S₁ := C2 u s d b i 2) ?_ ?_
    · refine D.for (src := .leaf (.seq [.int 0, .int 2, .int 4])) (S₁ := B0 u s d b i) (by revert i; apply lt15 <;> kernel_rfl) (by revert i; apply lt15 <;> kernel_rfl) ?_
      refine D.loop (v := .int 0) (src' := .leaf (.seq [.int 2, .int 4])) (S₁ := (C0 u s d b i 0)) (S₂ := (C2 u s d b i 0)) (by revert i; apply lt15 <;> kernel_rfl) (by revert i; apply lt15 <;> kernel_rfl) ?_ ?_
      · refine D.next (S₁ := (C1 u s d b i 0)) (by revert i; apply lt15 <;> kernel_rfl) ?_
        refine D.next (S₁ := (C2 u s d b i 0)) ?_ rfl
        refine D.asg (S₁ := (C1 u s d b i 0)) (v := .tup [.int (pr s i 1), .int (pr d i 1), .int (pr b i 1)]) ?_ (by revert i; apply lt15 <;> kernel_rfl)
        refine D.shr (S₁ := (C1 u s d b i 0)) (D.cons (S₁ := (C1 u s d b i 0)) (D.call (S₁ := (C1 u s d b i 0)) (S₂ := (C1 u s d b i 0)) (as := [.int (pr s i 0), .int (s (rE i 0) (rL i 0))]) (ks := []) (by revert i; apply lt15 <;> kernel_rfl) (by revert i; apply lt15 <;> kernel_rfl) rfl (if_pos (mul_ok (bs i 0) (hs _ _) (by decide) (by decide))))
          (D.cons (S₁ := (C1 u s d b i 0)) (D.call (S₁ := (C1 u s d b i 0)) (S₂ := (C1 u s d b i 0)) (as := [.int (pr d i 0), .int (d (rE i 0) (rL i 0))]) (ks := []) (by revert i; apply lt15 <;> kernel_rfl) (by revert i; apply lt15 <;> kernel_rfl) rfl (if_pos (mul_ok (bd i 0) (hd _ _) (by decide) (by decide))))
          (D.cons (S₁ := (C1 u s d b i 0)) (D.call (S₁ := (C1 u s d b i 0)) (S₂ := (C1 u s d b i 0)) (as := [.int (pr b i 0), .int (b (rE i 0) (rL i 0))]) (ks := []) (by revert i; apply lt15 <;> kernel_rfl) (by revert i; apply lt15 <;> kernel_rfl) rfl (if_pos (mul_ok (bb i 0) (hb _ _) (by decide) (by decide)))) rfl))) (by simp)
      refine D.loop (v := .int 2) (src' := .leaf (.seq [.int 4])) (S₁ := (C0 u s d b i 1)) (S₂ := (C2 u s d b i 1)) (by revert i; apply lt15 <;> kernel_rfl) (by revert i; apply lt15 <;> kernel_rfl) ?_ ?_
      · refine D.next (S₁ := (C1 u s d b i 1)) (by revert i; apply lt15 <;> kernel_rfl) ?_
        refine D.next (S₁ := (C2 u s d b i 1)) ?_ rfl
        refine D.asg (S₁ := (C1 u s d b i 1)) (v := .tup [.int (pr s i 2), .int (pr d i 2), .int (pr b i 2)]) ?_ (by revert i; apply lt15 <;> kernel_rfl)
        refine D.shr (S₁ := (C1 u s d b i 1)) (D.cons (S₁ := (C1 u s d b i 1)) (D.call (S₁ := (C1 u s d b i 1)) (S₂ := (C1 u s d b i 1)) (as := [.int (pr s i 1), .int (s (rE i 1) (rL i 1))]) (ks := []) (by revert i; apply lt15 <;> kernel_rfl) (by revert i; apply lt15 <;> kernel_rfl) rfl (if_pos (mul_ok (bs i 1) (hs _ _) (by decide) (by decide))))
          (D.cons (S₁ := (C1 u s d b i 1)) (D.call (S₁ := (C1 u s d b i 1)) (S₂ := (C1 u s d b i 1)) (as := [.int (pr d i 1), .int (d (rE i 1) (rL i 1))]) (ks := []) (by revert i; apply lt15 <;> kernel_rfl) (by revert i; apply lt15 <;> kernel_rfl) rfl (if_pos (mul_ok (bd i 1) (hd _ _) (by decide) (by decide))))
          (D.cons (S₁ := (C1 u s d b i 1)) (D.call (S₁ := (C1 u s d b i 1)) (S₂ := (C1 u s d b i 1)) (as := [.int (pr b i 1), .int (b (rE i 1) (rL i 1))]) (ks := []) (by revert i; apply lt15 <;> kernel_rfl) (by revert i; apply lt15 <;> kernel_rfl) rfl (if_pos (mul_ok (bb i 1) (hb _ _) (by decide) (by decide)))) rfl))) (by simp)
      refine D.loop (v := .int 4) (src' := .leaf (.seq [])) (S₁ := (C0 u s d b i 2)) (S₂ := (C2 u s d b i 2)) (by revert i; apply lt15 <;> kernel_rfl) (by revert i; apply lt15 <;> kernel_rfl) ?_ ?_
      · refine D.next (S₁ := (C1 u s d b i 2)) (by revert i; apply lt15 <;> kernel_rfl) ?_
        refine D.next (S₁ := (C2 u s d b i 2)) ?_ rfl
        refine D.asg (S₁ := (C1 u s d b i 2)) (v := .tup [.int (pr s i 3), .int (pr d i 3), .int (pr b i 3)]) ?_ (by revert i; apply lt15 <;> kernel_rfl)
        refine D.shr (S₁ := (C1 u s d b i 2)) (D.cons (S₁ := (C1 u s d b i 2)) (D.call (S₁ := (C1 u s d b i 2)) (S₂ := (C1 u s d b i 2)) (as := [.int (pr s i 2), .int (s (rE i 2) (rL i 2))]) (ks := []) (by revert i; apply lt15 <;> kernel_rfl) (by revert i; apply lt15 <;> kernel_rfl) rfl (if_pos (mul_ok (bs i 2) (hs _ _) (by decide) (by decide))))
          (D.cons (S₁ := (C1 u s d b i 2)) (D.call (S₁ := (C1 u s d b i 2)) (S₂ := (C1 u s d b i 2)) (as := [.int (pr d i 2), .int (d (rE i 2) (rL i 2))]) (ks := []) (by revert i; apply lt15 <;> kernel_rfl) (by revert i; apply lt15 <;> kernel_rfl) rfl (if_pos (mul_ok (bd i 2) (hd _ _) (by decide) (by decide))))
          (D.cons (S₁ := (C1 u s d b i 2)) (D.call (S₁ := (C1 u s d b i 2)) (S₂ := (C1 u s d b i 2)) (as := [.int (pr b i 2), .int (b (rE i 2) (rL i 2))]) (ks := []) (by revert i; apply lt15 <;> kernel_rfl) (by revert i; apply lt15 <;> kernel_rfl) rfl (if_pos (mul_ok (bb i 2) (hb _ _) (by decide) (by decide)))) rfl))) (by simp)
      exact D.done (by revert i; apply lt15 <;> kernel_rfl) rfl
    · refine D.next (S₁ := (S0 u s d b (i + 1))) ?_ rfl
      refine D.asg (S₁ := (C2 u s d b i 2)) (v := .tup [.int (sgs s (i + 1)), .int (tot d b (i + 1))]) ?_ (by revert i; apply lt15 <;> kernel_rfl)
      refine D.shr (S₁ := (C2 u s d b i 2)) (D.cons (S₁ := (C2 u s d b i 2)) (D.call (S₁ := (C2 u s d b i 2)) (S₂ := (C2 u s d b i 2)) (as := [.int (sgs s i), .int (pr s i 3)]) (ks := [])  (by revert i; apply lt15 <;> kernel_rfl) (by revert i; apply lt15 <;> kernel_rfl) rfl (by revert i; apply lt15 <;> kernel_rfl)) (D.cons (S₁ := (C2 u s d b i 2)) ?_ rfl)) (by simp)
      refine D.call (S₁ := (C2 u s d b i 2)) (S₂ := (C2 u s d b i 2)) (as := [.int (tot d b i), .int (pr d i 3 * ((wh b 15).fdiv (pr b i 3)))]) (ks := [])  (by revert i; apply lt15 <;> kernel_rfl) (D.cons (S₁ := (C2 u s d b i 2)) (by revert i; apply lt15 <;> kernel_rfl) (D.cons (S₁ := (C2 u s d b i 2)) ?_ rfl)) rfl (by revert i; apply lt15 <;> kernel_rfl)
      refine D.call (S₁ := (C2 u s d b i 2)) (S₂ := (C2 u s d b i 2)) (as := [.int (pr d i 3), .int ((wh b 15).fdiv (pr b i 3))]) (ks := [])  (by revert i; apply lt15 <;> kernel_rfl) (D.cons (S₁ := (C2 u s d b i 2)) (by revert i; apply lt15 <;> kernel_rfl) (D.cons (S₁ := (C2 u s d b i 2)) ?_ rfl)) rfl (if_pos (mul_ok (bd i 3) (bd_div (bw 15) (bp i 3)) (by decide) (by decide)))
      exact D.call (S₁ := (C2 u s d b i 2)) (S₂ := (C2 u s d b i 2)) (as := [.int (wh b 15), .int (pr b i 3)]) (ks := [])  (by revert i; apply lt15 <;> kernel_rfl) (by revert i; apply lt15 <;> kernel_rfl) rfl (if_pos (div_ok (bb i 3) (bp i 3) (by decide)))
  · rfl
end
end Mine
end
section
open PySem PySem.W PyProof.Rows
set_option Elab.async false
set_option maxRecDepth 100000
set_option linter.all false
set_option autoImplicit false
namespace Mine
noncomputable def wsL (w : Nat → Int) : List AV := [.int (w 0), .int (w 1), .int (w 2), .int (w 3), .int (w 4), .int (w 5)]
noncomputable def HO (u : Nat → AO) (t : Nat → Nat → AV) (w : Nat → Int) : List AO := HS u t ++ [.list (wsL w)]
noncomputable def oP (w : Nat → Int) : Nat → Int := prd fun k => w (pOne k) - w (pTwo k)
noncomputable def oT (w : Nat → Int) : Nat → Int := smm fun k => b2A (decide (w (pOne k) < w (pTwo k)))
noncomputable def SO (H : List AO) (w : Nat → Int) (k k' : Nat) (R : List (Str × AV)) : St := ⟨H, (nx "worths", .obj 82) :: (nx "product", .int (oP w k)) :: (nx "turned", .int (oT w k')) :: R⟩
theorem bd_fmod2 (i : Int) : Bd' 1 (i.fmod 2) := by
  have h1 := Int.fmod_nonneg_of_pos i (b := 2) (by decide)
  have h2 := Int.fmod_lt_of_pos i (b := 2) (by decide)
  unfold Bd'
  omega
theorem oP15 (w : Nat → Int) (h : oP w 15 = 0) : (0 : Int) = if oP w 15 = 0 then 0 else 1 - 2 * (oT w 15).fmod 2 := by rw [if_pos h]
section
variable {G : Glob} {n : Nat} {mg mb mn mh : Names} {script : List Int}
set_option maxHeartbeats 40000000 in
theorem ev_order (P : Txt G mg mb mn mh script) (u : Nat → AO) (t : Nat → Nat → AV) (w : Nat → Int) (hw : ∀ a b, Bd' 6 (w a - w b)) : F_order P n (HO u t w) [.obj 82] [] = some (.tup [.int (if oP w 15 = 0 then 0 else 1 - 2 * (oT w 15).fmod 2), .int (oP w 15)], HO u t w) := by
  have bw : ∀ k, Bd' (6 * k) (oP w k) := bd_prd fun k => hw _ _
  unfold F_order
  apply D.fn (S := ⟨HO u t w, [(nx "worths", .obj 82)]⟩) (S' := SO (HO u t w) w 15 15 [(nx "late", .int 5), (nx "early", .int 4)])
  · rfl
  · kernel_rfl
  · unfold B_order
    dsimp only
    refine D.next (S₁ := SO (HO u t w) w 0 0 []) (by kernel_rfl) ?_
    refine D.next (S₁ := SO (HO u t w) w 15 15 [(nx "late", .int 5), (nx "early", .int 4)]) ?_ ?_
    · skip
      refine D.for (src := .leaf (.seq [.int 0, .int 1, .int 2, .int 3, .int 4, .int 5])) (S₁ := (SO (HO u t w) w 0 0 [])) (by kernel_rfl) (by kernel_rfl) ?_
      refine D.loop (v := .int 0) (src' := .leaf (.seq [.int 1, .int 2, .int 3, .int 4, .int 5])) (S₁ := (SO (HO u t w) w 0 0 [(nx "late", .int 0)])) (S₂ := (SO (HO u t w) w 0 0 [(nx "late", .int 0)])) (by kernel_rfl) (by kernel_rfl) ?_ ?_
      · refine D.next (S₁ := (SO (HO u t w) w 0 0 [(nx "late", .int 0)])) ?_ rfl
        refine D.for (src := .leaf (.seq [])) (S₁ := (SO (HO u t w) w 0 0 [(nx "late", .int 0)])) (by kernel_rfl) (by kernel_rfl) ?_
        exact D.done (by kernel_rfl) rfl
      refine D.loop (v := .int 1) (src' := .leaf (.seq [.int 2, .int 3, .int 4, .int 5])) (S₁ := (SO (HO u t w) w 0 0 [(nx "late", .int 1)])) (S₂ := (SO (HO u t w) w 1 1 [(nx "late", .int 1), (nx "early", .int 0)])) (by kernel_rfl) (by kernel_rfl) ?_ ?_
      · refine D.next (S₁ := (SO (HO u t w) w 1 1 [(nx "late", .int 1), (nx "early", .int 0)])) ?_ rfl
        refine D.for (src := .leaf (.seq [.int 0])) (S₁ := (SO (HO u t w) w 0 0 [(nx "late", .int 1)])) (by kernel_rfl) (by kernel_rfl) ?_
        refine D.loop (v := .int 0) (src' := .leaf (.seq [])) (S₁ := (SO (HO u t w) w 0 0 [(nx "late", .int 1), (nx "early", .int 0)])) (S₂ := (SO (HO u t w) w 1 1 [(nx "late", .int 1), (nx "early", .int 0)])) (by kernel_rfl) (by kernel_rfl) ?_ ?_
        · refine D.next (S₁ := (SO (HO u t w) w 1 0 [(nx "late", .int 1), (nx "early", .int 0)])) ?_ ?_
          · exact D.aug (S₁ := (SO (HO u t w) w 0 0 [(nx "late", .int 1), (nx "early", .int 0)])) (v := .int (oP w 1)) (D.two (S₁ := (SO (HO u t w) w 0 0 [(nx "late", .int 1), (nx "early", .int 0)])) (S₂ := (SO (HO u t w) w 0 0 [(nx "late", .int 1), (nx "early", .int 0)])) (a := .int (oP w 0)) (b := .int (w 1 - w 0)) (by kernel_rfl) (by kernel_rfl) (if_pos (mul_ok (bw 0) (hw _ _) (by decide) (by decide)))) (by kernel_rfl)
          · exact D.next (S₁ := (SO (HO u t w) w 1 1 [(nx "late", .int 1), (nx "early", .int 0)])) (by kernel_rfl) rfl
        exact D.done (by kernel_rfl) rfl
      refine D.loop (v := .int 2) (src' := .leaf (.seq [.int 3, .int 4, .int 5])) (S₁ := (SO (HO u t w) w 1 1 [(nx "late", .int 2), (nx "early", .int 0)])) (S₂ := (SO (HO u t w) w 3 3 [(nx "late", .int 2), (nx "early", .int 1)])) (by kernel_rfl) (by kernel_rfl) ?_ ?_
      · refine D.next (S₁ := (SO (HO u t w) w 3 3 [(nx "late", .int 2), (nx "early", .int 1)])) ?_ rfl
        refine D.for (src := .leaf (.seq [.int 0, .int 1])) (S₁ := (SO (HO u t w) w 1 1 [(nx "late", .int 2), (nx "early", .int 0)])) (by kernel_rfl) (by kernel_rfl) ?_
        refine D.loop (v := .int 0) (src' := .leaf (.seq [.int 1])) (S₁ := (SO (HO u t w) w 1 1 [(nx "late", .int 2), (nx "early", .int 0)])) (S₂ := (SO (HO u t w) w 2 2 [(nx "late", .int 2), (nx "early", .int 0)])) (by kernel_rfl) (by kernel_rfl) ?_ ?_
        · refine D.next (S₁ := (SO (HO u t w) w 2 1 [(nx "late", .int 2), (nx "early", .int 0)])) ?_ ?_
          · exact D.aug (S₁ := (SO (HO u t w) w 1 1 [(nx "late", .int 2), (nx "early", .int 0)])) (v := .int (oP w 2)) (D.two (S₁ := (SO (HO u t w) w 1 1 [(nx "late", .int 2), (nx "early", .int 0)])) (S₂ := (SO (HO u t w) w 1 1 [(nx "late", .int 2), (nx "early", .int 0)])) (a := .int (oP w 1)) (b := .int (w 2 - w 0)) (by kernel_rfl) (by kernel_rfl) (if_pos (mul_ok (bw 1) (hw _ _) (by decide) (by decide)))) (by kernel_rfl)
          · exact D.next (S₁ := (SO (HO u t w) w 2 2 [(nx "late", .int 2), (nx "early", .int 0)])) (by kernel_rfl) rfl
        refine D.loop (v := .int 1) (src' := .leaf (.seq [])) (S₁ := (SO (HO u t w) w 2 2 [(nx "late", .int 2), (nx "early", .int 1)])) (S₂ := (SO (HO u t w) w 3 3 [(nx "late", .int 2), (nx "early", .int 1)])) (by kernel_rfl) (by kernel_rfl) ?_ ?_
        · refine D.next (S₁ := (SO (HO u t w) w 3 2 [(nx "late", .int 2), (nx "early", .int 1)])) ?_ ?_
          · exact D.aug (S₁ := (SO (HO u t w) w 2 2 [(nx "late", .int 2), (nx "early", .int 1)])) (v := .int (oP w 3)) (D.two (S₁ := (SO (HO u t w) w 2 2 [(nx "late", .int 2), (nx "early", .int 1)])) (S₂ := (SO (HO u t w) w 2 2 [(nx "late", .int 2), (nx "early", .int 1)])) (a := .int (oP w 2)) (b := .int (w 2 - w 1)) (by kernel_rfl) (by kernel_rfl) (if_pos (mul_ok (bw 2) (hw _ _) (by decide) (by decide)))) (by kernel_rfl)
          · exact D.next (S₁ := (SO (HO u t w) w 3 3 [(nx "late", .int 2), (nx "early", .int 1)])) (by kernel_rfl) rfl
        exact D.done (by kernel_rfl) rfl
      refine D.loop (v := .int 3) (src' := .leaf (.seq [.int 4, .int 5])) (S₁ := (SO (HO u t w) w 3 3 [(nx "late", .int 3), (nx "early", .int 1)])) (S₂ := (SO (HO u t w) w 6 6 [(nx "late", .int 3), (nx "early", .int 2)])) (by kernel_rfl) (by kernel_rfl) ?_ ?_
      · refine D.next (S₁ := (SO (HO u t w) w 6 6 [(nx "late", .int 3), (nx "early", .int 2)])) ?_ rfl
        refine D.for (src := .leaf (.seq [.int 0, .int 1, .int 2])) (S₁ := (SO (HO u t w) w 3 3 [(nx "late", .int 3), (nx "early", .int 1)])) (by kernel_rfl) (by kernel_rfl) ?_
        refine D.loop (v := .int 0) (src' := .leaf (.seq [.int 1, .int 2])) (S₁ := (SO (HO u t w) w 3 3 [(nx "late", .int 3), (nx "early", .int 0)])) (S₂ := (SO (HO u t w) w 4 4 [(nx "late", .int 3), (nx "early", .int 0)])) (by kernel_rfl) (by kernel_rfl) ?_ ?_
        · refine D.next (S₁ := (SO (HO u t w) w 4 3 [(nx "late", .int 3), (nx "early", .int 0)])) ?_ ?_
          · exact D.aug (S₁ := (SO (HO u t w) w 3 3 [(nx "late", .int 3), (nx "early", .int 0)])) (v := .int (oP w 4)) (D.two (S₁ := (SO (HO u t w) w 3 3 [(nx "late", .int 3), (nx "early", .int 0)])) (S₂ := (SO (HO u t w) w 3 3 [(nx "late", .int 3), (nx "early", .int 0)])) (a := .int (oP w 3)) (b := .int (w 3 - w 0)) (by kernel_rfl) (by kernel_rfl) (if_pos (mul_ok (bw 3) (hw _ _) (by decide) (by decide)))) (by kernel_rfl)
          · exact D.next (S₁ := (SO (HO u t w) w 4 4 [(nx "late", .int 3), (nx "early", .int 0)])) (by kernel_rfl) rfl
        refine D.loop (v := .int 1) (src' := .leaf (.seq [.int 2])) (S₁ := (SO (HO u t w) w 4 4 [(nx "late", .int 3), (nx "early", .int 1)])) (S₂ := (SO (HO u t w) w 5 5 [(nx "late", .int 3), (nx "early", .int 1)])) (by kernel_rfl) (by kernel_rfl) ?_ ?_
        · refine D.next (S₁ := (SO (HO u t w) w 5 4 [(nx "late", .int 3), (nx "early", .int 1)])) ?_ ?_
          · exact D.aug (S₁ := (SO (HO u t w) w 4 4 [(nx "late", .int 3), (nx "early", .int 1)])) (v := .int (oP w 5)) (D.two (S₁ := (SO (HO u t w) w 4 4 [(nx "late", .int 3), (nx "early", .int 1)])) (S₂ := (SO (HO u t w) w 4 4 [(nx "late", .int 3), (nx "early", .int 1)])) (a := .int (oP w 4)) (b := .int (w 3 - w 1)) (by kernel_rfl) (by kernel_rfl) (if_pos (mul_ok (bw 4) (hw _ _) (by decide) (by decide)))) (by kernel_rfl)
          · exact D.next (S₁ := (SO (HO u t w) w 5 5 [(nx "late", .int 3), (nx "early", .int 1)])) (by kernel_rfl) rfl
        refine D.loop (v := .int 2) (src' := .leaf (.seq [])) (S₁ := (SO (HO u t w) w 5 5 [(nx "late", .int 3), (nx "early", .int 2)])) (S₂ := (SO (HO u t w) w 6 6 [(nx "late", .int 3), (nx "early", .int 2)])) (by kernel_rfl) (by kernel_rfl) ?_ ?_
        · refine D.next (S₁ := (SO (HO u t w) w 6 5 [(nx "late", .int 3), (nx "early", .int 2)])) ?_ ?_
          · exact D.aug (S₁ := (SO (HO u t w) w 5 5 [(nx "late", .int 3), (nx "early", .int 2)])) (v := .int (oP w 6)) (D.two (S₁ := (SO (HO u t w) w 5 5 [(nx "late", .int 3), (nx "early", .int 2)])) (S₂ := (SO (HO u t w) w 5 5 [(nx "late", .int 3), (nx "early", .int 2)])) (a := .int (oP w 5)) (b := .int (w 3 - w 2)) (by kernel_rfl) (by kernel_rfl) (if_pos (mul_ok (bw 5) (hw _ _) (by decide) (by decide)))) (by kernel_rfl)
          · exact D.next (S₁ := (SO (HO u t w) w 6 6 [(nx "late", .int 3), (nx "early", .int 2)])) (by kernel_rfl) rfl
        exact D.done (by kernel_rfl) rfl
      refine D.loop (v := .int 4) (src' := .leaf (.seq [.int 5])) (S₁ := (SO (HO u t w) w 6 6 [(nx "late", .int 4), (nx "early", .int 2)])) (S₂ := (SO (HO u t w) w 10 10 [(nx "late", .int 4), (nx "early", .int 3)])) (by kernel_rfl) (by kernel_rfl) ?_ ?_
      · refine D.next (S₁ := (SO (HO u t w) w 10 10 [(nx "late", .int 4), (nx "early", .int 3)])) ?_ rfl
        refine D.for (src := .leaf (.seq [.int 0, .int 1, .int 2, .int 3])) (S₁ := (SO (HO u t w) w 6 6 [(nx "late", .int 4), (nx "early", .int 2)])) (by kernel_rfl) (by kernel_rfl) ?_
        refine D.loop (v := .int 0) (src' := .leaf (.seq [.int 1, .int 2, .int 3])) (S₁ := (SO (HO u t w) w 6 6 [(nx "late", .int 4), (nx "early", .int 0)])) (S₂ := (SO (HO u t w) w 7 7 [(nx "late", .int 4), (nx "early", .int 0)])) (by kernel_rfl) (by kernel_rfl) ?_ ?_
        · refine D.next (S₁ := (SO (HO u t w) w 7 6 [(nx "late", .int 4), (nx "early", .int 0)])) ?_ ?_
          · exact D.aug (S₁ := (SO (HO u t w) w 6 6 [(nx "late", .int 4), (nx "early", .int 0)])) (v := .int (oP w 7)) (D.two (S₁ := (SO (HO u t w) w 6 6 [(nx "late", .int 4), (nx "early", .int 0)])) (S₂ := (SO (HO u t w) w 6 6 [(nx "late", .int 4), (nx "early", .int 0)])) (a := .int (oP w 6)) (b := .int (w 4 - w 0)) (by kernel_rfl) (by kernel_rfl) (if_pos (mul_ok (bw 6) (hw _ _) (by decide) (by decide)))) (by kernel_rfl)
          · exact D.next (S₁ := (SO (HO u t w) w 7 7 [(nx "late", .int 4), (nx "early", .int 0)])) (by kernel_rfl) rfl
        refine D.loop (v := .int 1) (src' := .leaf (.seq [.int 2, .int 3])) (S₁ := (SO (HO u t w) w 7 7 [(nx "late", .int 4), (nx "early", .int 1)])) (S₂ := (SO (HO u t w) w 8 8 [(nx "late", .int 4), (nx "early", .int 1)])) (by kernel_rfl) (by kernel_rfl) ?_ ?_
        · refine D.next (S₁ := (SO (HO u t w) w 8 7 [(nx "late", .int 4), (nx "early", .int 1)])) ?_ ?_
          · exact D.aug (S₁ := (SO (HO u t w) w 7 7 [(nx "late", .int 4), (nx "early", .int 1)])) (v := .int (oP w 8)) (D.two (S₁ := (SO (HO u t w) w 7 7 [(nx "late", .int 4), (nx "early", .int 1)])) (S₂ := (SO (HO u t w) w 7 7 [(nx "late", .int 4), (nx "early", .int 1)])) (a := .int (oP w 7)) (b := .int (w 4 - w 1)) (by kernel_rfl) (by kernel_rfl) (if_pos (mul_ok (bw 7) (hw _ _) (by decide) (by decide)))) (by kernel_rfl)
          · exact D.next (S₁ := (SO (HO u t w) w 8 8 [(nx "late", .int 4), (nx "early", .int 1)])) (by kernel_rfl) rfl
        refine D.loop (v := .int 2) (src' := .leaf (.seq [.int 3])) (S₁ := (SO (HO u t w) w 8 8 [(nx "late", .int 4), (nx "early", .int 2)])) (S₂ := (SO (HO u t w) w 9 9 [(nx "late", .int 4), (nx "early", .int 2)])) (by kernel_rfl) (by kernel_rfl) ?_ ?_
        · refine D.next (S₁ := (SO (HO u t w) w 9 8 [(nx "late", .int 4), (nx "early", .int 2)])) ?_ ?_
          · exact D.aug (S₁ := (SO (HO u t w) w 8 8 [(nx "late", .int 4), (nx "early", .int 2)])) (v := .int (oP w 9)) (D.two (S₁ := (SO (HO u t w) w 8 8 [(nx "late", .int 4), (nx "early", .int 2)])) (S₂ := (SO (HO u t w) w 8 8 [(nx "late", .int 4), (nx "early", .int 2)])) (a := .int (oP w 8)) (b := .int (w 4 - w 2)) (by kernel_rfl) (by kernel_rfl) (if_pos (mul_ok (bw 8) (hw _ _) (by decide) (by decide)))) (by kernel_rfl)
          · exact D.next (S₁ := (SO (HO u t w) w 9 9 [(nx "late", .int 4), (nx "early", .int 2)])) (by kernel_rfl) rfl
        refine D.loop (v := .int 3) (src' := .leaf (.seq [])) (S₁ := (SO (HO u t w) w 9 9 [(nx "late", .int 4), (nx "early", .int 3)])) (S₂ := (SO (HO u t w) w 10 10 [(nx "late", .int 4), (nx "early", .int 3)])) (by kernel_rfl) (by kernel_rfl) ?_ ?_
        · refine D.next (S₁ := (SO (HO u t w) w 10 9 [(nx "late", .int 4), (nx "early", .int 3)])) ?_ ?_
          · exact D.aug (S₁ := (SO (HO u t w) w 9 9 [(nx "late", .int 4), (nx "early", .int 3)])) (v := .int (oP w 10)) (D.two (S₁ := (SO (HO u t w) w 9 9 [(nx "late", .int 4), (nx "early", .int 3)])) (S₂ := (SO (HO u t w) w 9 9 [(nx "late", .int 4), (nx "early", .int 3)])) (a := .int (oP w 9)) (b := .int (w 4 - w 3)) (by kernel_rfl) (by kernel_rfl) (if_pos (mul_ok (bw 9) (hw _ _) (by decide) (by decide)))) (by kernel_rfl)
          · exact D.next (S₁ := (SO (HO u t w) w 10 10 [(nx "late", .int 4), (nx "early", .int 3)])) (by kernel_rfl) rfl
        exact D.done (by kernel_rfl) rfl
      refine D.loop (v := .int 5) (src' := .leaf (.seq [])) (S₁ := (SO (HO u t w) w 10 10 [(nx "late", .int 5), (nx "early", .int 3)])) (S₂ := (SO (HO u t w) w 15 15 [(nx "late", .int 5), (nx "early", .int 4)])) (by kernel_rfl) (by kernel_rfl) ?_ ?_
      · refine D.next (S₁ := (SO (HO u t w) w 15 15 [(nx "late", .int 5), (nx "early", .int 4)])) ?_ rfl
        refine D.for (src := .leaf (.seq [.int 0, .int 1, .int 2, .int 3, .int 4])) (S₁ := (SO (HO u t w) w 10 10 [(nx "late", .int 5), (nx "early", .int 3)])) (by kernel_rfl) (by kernel_rfl) ?_
        refine D.loop (v := .int 0) (src' := .leaf (.seq [.int 1, .int 2, .int 3, .int 4])) (S₁ := (SO (HO u t w) w 10 10 [(nx "late", .int 5), (nx "early", .int 0)])) (S₂ := (SO (HO u t w) w 11 11 [(nx "late", .int 5), (nx "early", .int 0)])) (by kernel_rfl) (by kernel_rfl) ?_ ?_
        · refine D.next (S₁ := (SO (HO u t w) w 11 10 [(nx "late", .int 5), (nx "early", .int 0)])) ?_ ?_
          · exact D.aug (S₁ := (SO (HO u t w) w 10 10 [(nx "late", .int 5), (nx "early", .int 0)])) (v := .int (oP w 11)) (D.two (S₁ := (SO (HO u t w) w 10 10 [(nx "late", .int 5), (nx "early", .int 0)])) (S₂ := (SO (HO u t w) w 10 10 [(nx "late", .int 5), (nx "early", .int 0)])) (a := .int (oP w 10)) (b := .int (w 5 - w 0)) (by kernel_rfl) (by kernel_rfl) (if_pos (mul_ok (bw 10) (hw _ _) (by decide) (by decide)))) (by kernel_rfl)
          · exact D.next (S₁ := (SO (HO u t w) w 11 11 [(nx "late", .int 5), (nx "early", .int 0)])) (by kernel_rfl) rfl
        refine D.loop (v := .int 1) (src' := .leaf (.seq [.int 2, .int 3, .int 4])) (S₁ := (SO (HO u t w) w 11 11 [(nx "late", .int 5), (nx "early", .int 1)])) (S₂ := (SO (HO u t w) w 12 12 [(nx "late", .int 5), (nx "early", .int 1)])) (by kernel_rfl) (by kernel_rfl) ?_ ?_
        · refine D.next (S₁ := (SO (HO u t w) w 12 11 [(nx "late", .int 5), (nx "early", .int 1)])) ?_ ?_
          · exact D.aug (S₁ := (SO (HO u t w) w 11 11 [(nx "late", .int 5), (nx "early", .int 1)])) (v := .int (oP w 12)) (D.two (S₁ := (SO (HO u t w) w 11 11 [(nx "late", .int 5), (nx "early", .int 1)])) (S₂ := (SO (HO u t w) w 11 11 [(nx "late", .int 5), (nx "early", .int 1)])) (a := .int (oP w 11)) (b := .int (w 5 - w 1)) (by kernel_rfl) (by kernel_rfl) (if_pos (mul_ok (bw 11) (hw _ _) (by decide) (by decide)))) (by kernel_rfl)
          · exact D.next (S₁ := (SO (HO u t w) w 12 12 [(nx "late", .int 5), (nx "early", .int 1)])) (by kernel_rfl) rfl
        refine D.loop (v := .int 2) (src' := .leaf (.seq [.int 3, .int 4])) (S₁ := (SO (HO u t w) w 12 12 [(nx "late", .int 5), (nx "early", .int 2)])) (S₂ := (SO (HO u t w) w 13 13 [(nx "late", .int 5), (nx "early", .int 2)])) (by kernel_rfl) (by kernel_rfl) ?_ ?_
        · refine D.next (S₁ := (SO (HO u t w) w 13 12 [(nx "late", .int 5), (nx "early", .int 2)])) ?_ ?_
          · exact D.aug (S₁ := (SO (HO u t w) w 12 12 [(nx "late", .int 5), (nx "early", .int 2)])) (v := .int (oP w 13)) (D.two (S₁ := (SO (HO u t w) w 12 12 [(nx "late", .int 5), (nx "early", .int 2)])) (S₂ := (SO (HO u t w) w 12 12 [(nx "late", .int 5), (nx "early", .int 2)])) (a := .int (oP w 12)) (b := .int (w 5 - w 2)) (by kernel_rfl) (by kernel_rfl) (if_pos (mul_ok (bw 12) (hw _ _) (by decide) (by decide)))) (by kernel_rfl)
          · exact D.next (S₁ := (SO (HO u t w) w 13 13 [(nx "late", .int 5), (nx "early", .int 2)])) (by kernel_rfl) rfl
        refine D.loop (v := .int 3) (src' := .leaf (.seq [.int 4])) (S₁ := (SO (HO u t w) w 13 13 [(nx "late", .int 5), (nx "early", .int 3)])) (S₂ := (SO (HO u t w) w 14 14 [(nx "late", .int 5), (nx "early", .int 3)])) (by kernel_rfl) (by kernel_rfl) ?_ ?_
        · refine D.next (S₁ := (SO (HO u t w) w 14 13 [(nx "late", .int 5), (nx "early", .int 3)])) ?_ ?_
          · exact D.aug (S₁ := (SO (HO u t w) w 13 13 [(nx "late", .int 5), (nx "early", .int 3)])) (v := .int (oP w 14)) (D.two (S₁ := (SO (HO u t w) w 13 13 [(nx "late", .int 5), (nx "early", .int 3)])) (S₂ := (SO (HO u t w) w 13 13 [(nx "late", .int 5), (nx "early", .int 3)])) (a := .int (oP w 13)) (b := .int (w 5 - w 3)) (by kernel_rfl) (by kernel_rfl) (if_pos (mul_ok (bw 13) (hw _ _) (by decide) (by decide)))) (by kernel_rfl)
          · exact D.next (S₁ := (SO (HO u t w) w 14 14 [(nx "late", .int 5), (nx "early", .int 3)])) (by kernel_rfl) rfl
        refine D.loop (v := .int 4) (src' := .leaf (.seq [])) (S₁ := (SO (HO u t w) w 14 14 [(nx "late", .int 5), (nx "early", .int 4)])) (S₂ := (SO (HO u t w) w 15 15 [(nx "late", .int 5), (nx "early", .int 4)])) (by kernel_rfl) (by kernel_rfl) ?_ ?_
        · refine D.next (S₁ := (SO (HO u t w) w 15 14 [(nx "late", .int 5), (nx "early", .int 4)])) ?_ ?_
          · exact D.aug (S₁ := (SO (HO u t w) w 14 14 [(nx "late", .int 5), (nx "early", .int 4)])) (v := .int (oP w 15)) (D.two (S₁ := (SO (HO u t w) w 14 14 [(nx "late", .int 5), (nx "early", .int 4)])) (S₂ := (SO (HO u t w) w 14 14 [(nx "late", .int 5), (nx "early", .int 4)])) (a := .int (oP w 14)) (b := .int (w 5 - w 4)) (by kernel_rfl) (by kernel_rfl) (if_pos (mul_ok (bw 14) (hw _ _) (by decide) (by decide)))) (by kernel_rfl)
          · exact D.next (S₁ := (SO (HO u t w) w 15 15 [(nx "late", .int 5), (nx "early", .int 4)])) (by kernel_rfl) rfl
        exact D.done (by kernel_rfl) rfl
      exact D.done (by kernel_rfl) rfl
    refine D.stop (D.ret ?_)
    refine D.shr (S₁ := (SO (HO u t w) w 15 15 [(nx "late", .int 5), (nx "early", .int 4)])) (l := [.int (if oP w 15 = 0 then 0 else 1 - 2 * (oT w 15).fmod 2), .int (oP w 15)]) (D.cons (S₁ := (SO (HO u t w) w 15 15 [(nx "late", .int 5), (nx "early", .int 4)])) ?_ (by kernel_rfl)) (by simp)
    by_cases hz : oP w 15 = 0
    · rw [if_pos hz]
      refine D.tt (S₁ := (SO (HO u t w) w 15 15 [(nx "late", .int 5), (nx "early", .int 4)])) ?_ (by kernel_rfl)
      have : (decide (oP w 15 = 0)) = true := decide_eq_true hz
      rw [← this]
      kernel_rfl
    · rw [if_neg hz]
      refine D.ff (S₁ := (SO (HO u t w) w 15 15 [(nx "late", .int 5), (nx "early", .int 4)])) ?_ ?_
      · have : (decide (oP w 15 = 0)) = false := decide_eq_false hz
        rw [← this]
        kernel_rfl
      · refine D.two (S₁ := (SO (HO u t w) w 15 15 [(nx "late", .int 5), (nx "early", .int 4)])) (S₂ := (SO (HO u t w) w 15 15 [(nx "late", .int 5), (nx "early", .int 4)])) (a := .int 1) (b := .int (2 * (oT w 15).fmod 2)) (by kernel_rfl) ?_ (by kernel_rfl)
        exact D.two (S₁ := (SO (HO u t w) w 15 15 [(nx "late", .int 5), (nx "early", .int 4)])) (S₂ := (SO (HO u t w) w 15 15 [(nx "late", .int 5), (nx "early", .int 4)])) (a := .int 2) (b := .int ((oT w 15).fmod 2)) (by kernel_rfl) (by kernel_rfl) (if_pos ⟨by decide, bits_ok (bd_fmod2 _) (by decide)⟩)
  · rfl
end
end Mine
end
section
open PySem PySem.W PyProof.Rows
set_option Elab.async false
set_option maxRecDepth 100000
set_option linter.all false
set_option autoImplicit false
namespace Mine
theorem pick6 (l : List AV) (h : 6 ≤ l.length) : pickA l none (some 6) none = l.take 6 := by
  obtain ⟨a, l, rfl⟩ := List.exists_cons_of_length_pos (l := l) (by omega)
  obtain ⟨b, l, rfl⟩ := List.exists_cons_of_length_pos (l := l) (by simp only [List.length_cons] at h; omega)
  obtain ⟨c, l, rfl⟩ := List.exists_cons_of_length_pos (l := l) (by simp only [List.length_cons] at h; omega)
  obtain ⟨d, l, rfl⟩ := List.exists_cons_of_length_pos (l := l) (by simp only [List.length_cons] at h; omega)
  obtain ⟨e, l, rfl⟩ := List.exists_cons_of_length_pos (l := l) (by simp only [List.length_cons] at h; omega)
  obtain ⟨f, r, rfl⟩ := List.exists_cons_of_length_pos (l := l) (by simp only [List.length_cons] at h; omega)
  · unfold pickA
    have e1 : sliceBounds none (some 6) none (a :: b :: c :: d :: e :: f :: r).length = (0, 6, 1) := by
      rw [sliceBounds_plain]
      have : clipAt (a :: b :: c :: d :: e :: f :: r).length 6 = 6 := by
        unfold clipAt
        simp only [List.length_cons]
        omega
      show ((0 : Int), ((clipAt (a :: b :: c :: d :: e :: f :: r).length 6 : Nat) : Int), (1 : Int)) = _
      rw [this]
      rfl
    rw [e1]
    rfl
theorem D.vali {F : St → Option (AV × St)} {S S₁ : St} {v : AV} {s : Src} (h : F S = some (v, S₁)) (k : srcOf S₁.hp v = some s) : valIt F S = some (.leaf s, S₁) := thenI h (by rw [k]; rfl)
noncomputable def dN : List Int → Nat → Int
  | [], 0 => 3
  | [], 1 => 40
  | [], 2 => 12
  | [], 3 => 7
  | [], 4 => 18
  | [], _ => 31
  | [a], 0 => a.fmod 1000000
  | [a], 1 => 40
  | [a], 2 => 12
  | [a], 3 => 7
  | [a], 4 => 18
  | [a], _ => 31
  | [a, b], 0 => a.fmod 1000000
  | [a, b], 1 => b.fmod 1000000
  | [a, b], 2 => 12
  | [a, b], 3 => 7
  | [a, b], 4 => 18
  | [a, b], _ => 31
  | [a, b, c], 0 => a.fmod 1000000
  | [a, b, c], 1 => b.fmod 1000000
  | [a, b, c], 2 => c.fmod 1000000
  | [a, b, c], 3 => 7
  | [a, b, c], 4 => 18
  | [a, b, c], _ => 31
  | [a, b, c, d], 0 => a.fmod 1000000
  | [a, b, c, d], 1 => b.fmod 1000000
  | [a, b, c, d], 2 => c.fmod 1000000
  | [a, b, c, d], 3 => d.fmod 1000000
  | [a, b, c, d], 4 => 18
  | [a, b, c, d], _ => 31
  | [a, b, c, d, e], 0 => a.fmod 1000000
  | [a, b, c, d, e], 1 => b.fmod 1000000
  | [a, b, c, d, e], 2 => c.fmod 1000000
  | [a, b, c, d, e], 3 => d.fmod 1000000
  | [a, b, c, d, e], 4 => e.fmod 1000000
  | [a, b, c, d, e], _ => 31
  | a::b::c::d::e::f::_, 0 => a.fmod 1000000
  | a::b::c::d::e::f::_, 1 => b.fmod 1000000
  | a::b::c::d::e::f::_, 2 => c.fmod 1000000
  | a::b::c::d::e::f::_, 3 => d.fmod 1000000
  | a::b::c::d::e::f::_, 4 => e.fmod 1000000
  | a::b::c::d::e::f::_, _ => f.fmod 1000000
section
variable {G : Glob} {n : Nat} {mg mb mn mh : Names} {script : List Int}
set_option maxHeartbeats 4000000 in
theorem ev_numbers (P : Txt G mg mb mn mh script) (x0 x1 : AO) (hz : script.length ≤ 63) : ∃ y2 y3 y4 y5 : AO, F_numbers P n [x0, x1] [.c (.ref 349)] [] = some (.obj 6, [x0, x1, y2, y3, y4, y5, .list [.int (dN script 0), .int (dN script 1), .int (dN script 2), .int (dN script 3), .int (dN script 4), .int (dN script 5)]]) := by
  have hk : ∀ (H : List AO) (L : List AV), pickA (script.map .int) none (some 6) none = L → sliceA (fun a => if a = 349 then some (script.map .int) else none) H (.c (.ref 349)) none (some 6) none = some (.obj H.length, H ++ [.list L]) := by
    intro H L e
    subst e
    exact if_pos ⟨nofun, by rw [List.length_map]; omega⟩
  have hm : ∀ a b c d e f r, script = a :: b :: c :: d :: e :: f :: r → pickA (script.map .int) none (some 6) none = [.int a, .int b, .int c, .int d, .int e, .int f] := by
    intro a b c d e f r h
    subst h
    exact pick6 _ (by simp)
  clear hz
  match script, P, hk, hm with
  | [], P, hk, hm =>
    refine ⟨.list [], .list [], .list [.int 3, .int 40, .int 12, .int 7, .int 18, .int 31], .list [.int 3, .int 40, .int 12, .int 7, .int 18, .int 31], ?_⟩
    unfold F_numbers
    apply D.fn (S := ⟨[x0, x1], [(nx "script", .c (.ref 349))]⟩) (S' := ⟨[x0, x1, .list [], .list [], .list [.int 3, .int 40, .int 12, .int 7, .int 18, .int 31], .list [.int 3, .int 40, .int 12, .int 7, .int 18, .int 31], .list [.int 3, .int 40, .int 12, .int 7, .int 18, .int 31]], [(nx "script", .c (.ref 349)), (nx "drawn", .obj 3)]⟩)
    · rfl
    · kernel_rfl
    · unfold B_numbers
      dsimp only
      refine D.next (S₁ := ⟨[x0, x1, .list [], .list []], [(nx "script", .c (.ref 349)), (nx "drawn", .obj 3)]⟩) ?_ (D.stop (D.ret (by kernel_rfl)))
      refine D.swap (S₁ := ⟨[x0, x1, .list [], .list []], [(nx "script", .c (.ref 349))]⟩) (v := .obj 3) ?_ (by kernel_rfl)
      exact D.comps (src := .leaf (.list 2 0)) (S₁ := ⟨[x0, x1, .list []], [(nx "script", .c (.ref 349))]⟩) (S₂ := ⟨[x0, x1, .list [], .list []], []⟩) (D.vali (D.slice (S₁ := ⟨[x0, x1], [(nx "script", .c (.ref 349))]⟩) (S₂ := ⟨[x0, x1], [(nx "script", .c (.ref 349))]⟩) (S₃ := ⟨[x0, x1], [(nx "script", .c (.ref 349))]⟩) (S₄ := ⟨[x0, x1], [(nx "script", .c (.ref 349))]⟩) (by kernel_rfl) (by kernel_rfl) (by kernel_rfl) (by kernel_rfl) (hk _ _ (by kernel_rfl))) (by kernel_rfl)) (by kernel_rfl) (by kernel_rfl) (by kernel_rfl)
    · kernel_rfl
  | [a], P, hk, hm =>
    refine ⟨.list [.int a], .list [.int (a.fmod 1000000)], .list [.int 3, .int 40, .int 12, .int 7, .int 18, .int 31], .list [.int 40, .int 12, .int 7, .int 18, .int 31], ?_⟩
    unfold F_numbers
    apply D.fn (S := ⟨[x0, x1], [(nx "script", .c (.ref 349))]⟩) (S' := ⟨[x0, x1, .list [.int a], .list [.int (a.fmod 1000000)], .list [.int 3, .int 40, .int 12, .int 7, .int 18, .int 31], .list [.int 40, .int 12, .int 7, .int 18, .int 31], .list [.int (a.fmod 1000000), .int 40, .int 12, .int 7, .int 18, .int 31]], [(nx "script", .c (.ref 349)), (nx "drawn", .obj 3)]⟩)
    · rfl
    · kernel_rfl
    · unfold B_numbers
      dsimp only
      refine D.next (S₁ := ⟨[x0, x1, .list [.int a], .list [.int (a.fmod 1000000)]], [(nx "script", .c (.ref 349)), (nx "drawn", .obj 3)]⟩) ?_ (D.stop (D.ret (by kernel_rfl)))
      refine D.swap (S₁ := ⟨[x0, x1, .list [.int a], .list [.int (a.fmod 1000000)]], [(nx "script", .c (.ref 349))]⟩) (v := .obj 3) ?_ (by kernel_rfl)
      exact D.comps (src := .leaf (.list 2 0)) (S₁ := ⟨[x0, x1, .list [.int a]], [(nx "script", .c (.ref 349))]⟩) (S₂ := ⟨[x0, x1, .list [.int a], .list [.int (a.fmod 1000000)]], [(nx "cell", .int a)]⟩) (D.vali (D.slice (S₁ := ⟨[x0, x1], [(nx "script", .c (.ref 349))]⟩) (S₂ := ⟨[x0, x1], [(nx "script", .c (.ref 349))]⟩) (S₃ := ⟨[x0, x1], [(nx "script", .c (.ref 349))]⟩) (S₄ := ⟨[x0, x1], [(nx "script", .c (.ref 349))]⟩) (by kernel_rfl) (by kernel_rfl) (by kernel_rfl) (by kernel_rfl) (hk _ _ (by kernel_rfl))) (by kernel_rfl)) (by kernel_rfl) (by kernel_rfl) (by kernel_rfl)
    · kernel_rfl
  | [a, b], P, hk, hm =>
    refine ⟨.list [.int a, .int b], .list [.int (a.fmod 1000000), .int (b.fmod 1000000)], .list [.int 3, .int 40, .int 12, .int 7, .int 18, .int 31], .list [.int 12, .int 7, .int 18, .int 31], ?_⟩
    unfold F_numbers
    apply D.fn (S := ⟨[x0, x1], [(nx "script", .c (.ref 349))]⟩) (S' := ⟨[x0, x1, .list [.int a, .int b], .list [.int (a.fmod 1000000), .int (b.fmod 1000000)], .list [.int 3, .int 40, .int 12, .int 7, .int 18, .int 31], .list [.int 12, .int 7, .int 18, .int 31], .list [.int (a.fmod 1000000), .int (b.fmod 1000000), .int 12, .int 7, .int 18, .int 31]], [(nx "script", .c (.ref 349)), (nx "drawn", .obj 3)]⟩)
    · rfl
    · kernel_rfl
    · unfold B_numbers
      dsimp only
      refine D.next (S₁ := ⟨[x0, x1, .list [.int a, .int b], .list [.int (a.fmod 1000000), .int (b.fmod 1000000)]], [(nx "script", .c (.ref 349)), (nx "drawn", .obj 3)]⟩) ?_ (D.stop (D.ret (by kernel_rfl)))
      refine D.swap (S₁ := ⟨[x0, x1, .list [.int a, .int b], .list [.int (a.fmod 1000000), .int (b.fmod 1000000)]], [(nx "script", .c (.ref 349))]⟩) (v := .obj 3) ?_ (by kernel_rfl)
      exact D.comps (src := .leaf (.list 2 0)) (S₁ := ⟨[x0, x1, .list [.int a, .int b]], [(nx "script", .c (.ref 349))]⟩) (S₂ := ⟨[x0, x1, .list [.int a, .int b], .list [.int (a.fmod 1000000), .int (b.fmod 1000000)]], [(nx "cell", .int b)]⟩) (D.vali (D.slice (S₁ := ⟨[x0, x1], [(nx "script", .c (.ref 349))]⟩) (S₂ := ⟨[x0, x1], [(nx "script", .c (.ref 349))]⟩) (S₃ := ⟨[x0, x1], [(nx "script", .c (.ref 349))]⟩) (S₄ := ⟨[x0, x1], [(nx "script", .c (.ref 349))]⟩) (by kernel_rfl) (by kernel_rfl) (by kernel_rfl) (by kernel_rfl) (hk _ _ (by kernel_rfl))) (by kernel_rfl)) (by kernel_rfl) (by kernel_rfl) (by kernel_rfl)
    · kernel_rfl
  | [a, b, c], P, hk, hm =>
    refine ⟨.list [.int a, .int b, .int c], .list [.int (a.fmod 1000000), .int (b.fmod 1000000), .int (c.fmod 1000000)], .list [.int 3, .int 40, .int 12, .int 7, .int 18, .int 31], .list [.int 7, .int 18, .int 31], ?_⟩
    unfold F_numbers
    apply D.fn (S := ⟨[x0, x1], [(nx "script", .c (.ref 349))]⟩) (S' := ⟨[x0, x1, .list [.int a, .int b, .int c], .list [.int (a.fmod 1000000), .int (b.fmod 1000000), .int (c.fmod 1000000)], .list [.int 3, .int 40, .int 12, .int 7, .int 18, .int 31], .list [.int 7, .int 18, .int 31], .list [.int (a.fmod 1000000), .int (b.fmod 1000000), .int (c.fmod 1000000), .int 7, .int 18, .int 31]], [(nx "script", .c (.ref 349)), (nx "drawn", .obj 3)]⟩)
    · rfl
    · kernel_rfl
    · unfold B_numbers
      dsimp only
      refine D.next (S₁ := ⟨[x0, x1, .list [.int a, .int b, .int c], .list [.int (a.fmod 1000000), .int (b.fmod 1000000), .int (c.fmod 1000000)]], [(nx "script", .c (.ref 349)), (nx "drawn", .obj 3)]⟩) ?_ (D.stop (D.ret (by kernel_rfl)))
      refine D.swap (S₁ := ⟨[x0, x1, .list [.int a, .int b, .int c], .list [.int (a.fmod 1000000), .int (b.fmod 1000000), .int (c.fmod 1000000)]], [(nx "script", .c (.ref 349))]⟩) (v := .obj 3) ?_ (by kernel_rfl)
      exact D.comps (src := .leaf (.list 2 0)) (S₁ := ⟨[x0, x1, .list [.int a, .int b, .int c]], [(nx "script", .c (.ref 349))]⟩) (S₂ := ⟨[x0, x1, .list [.int a, .int b, .int c], .list [.int (a.fmod 1000000), .int (b.fmod 1000000), .int (c.fmod 1000000)]], [(nx "cell", .int c)]⟩) (D.vali (D.slice (S₁ := ⟨[x0, x1], [(nx "script", .c (.ref 349))]⟩) (S₂ := ⟨[x0, x1], [(nx "script", .c (.ref 349))]⟩) (S₃ := ⟨[x0, x1], [(nx "script", .c (.ref 349))]⟩) (S₄ := ⟨[x0, x1], [(nx "script", .c (.ref 349))]⟩) (by kernel_rfl) (by kernel_rfl) (by kernel_rfl) (by kernel_rfl) (hk _ _ (by kernel_rfl))) (by kernel_rfl)) (by kernel_rfl) (by kernel_rfl) (by kernel_rfl)
    · kernel_rfl
  | [a, b, c, d], P, hk, hm =>
    refine ⟨.list [.int a, .int b, .int c, .int d], .list [.int (a.fmod 1000000), .int (b.fmod 1000000), .int (c.fmod 1000000), .int (d.fmod 1000000)], .list [.int 3, .int 40, .int 12, .int 7, .int 18, .int 31], .list [.int 18, .int 31], ?_⟩
    unfold F_numbers
    apply D.fn (S := ⟨[x0, x1], [(nx "script", .c (.ref 349))]⟩) (S' := ⟨[x0, x1, .list [.int a, .int b, .int c, .int d], .list [.int (a.fmod 1000000), .int (b.fmod 1000000), .int (c.fmod 1000000), .int (d.fmod 1000000)], .list [.int 3, .int 40, .int 12, .int 7, .int 18, .int 31], .list [.int 18, .int 31], .list [.int (a.fmod 1000000), .int (b.fmod 1000000), .int (c.fmod 1000000), .int (d.fmod 1000000), .int 18, .int 31]], [(nx "script", .c (.ref 349)), (nx "drawn", .obj 3)]⟩)
    · rfl
    · kernel_rfl
    · unfold B_numbers
      dsimp only
      refine D.next (S₁ := ⟨[x0, x1, .list [.int a, .int b, .int c, .int d], .list [.int (a.fmod 1000000), .int (b.fmod 1000000), .int (c.fmod 1000000), .int (d.fmod 1000000)]], [(nx "script", .c (.ref 349)), (nx "drawn", .obj 3)]⟩) ?_ (D.stop (D.ret (by kernel_rfl)))
      refine D.swap (S₁ := ⟨[x0, x1, .list [.int a, .int b, .int c, .int d], .list [.int (a.fmod 1000000), .int (b.fmod 1000000), .int (c.fmod 1000000), .int (d.fmod 1000000)]], [(nx "script", .c (.ref 349))]⟩) (v := .obj 3) ?_ (by kernel_rfl)
      exact D.comps (src := .leaf (.list 2 0)) (S₁ := ⟨[x0, x1, .list [.int a, .int b, .int c, .int d]], [(nx "script", .c (.ref 349))]⟩) (S₂ := ⟨[x0, x1, .list [.int a, .int b, .int c, .int d], .list [.int (a.fmod 1000000), .int (b.fmod 1000000), .int (c.fmod 1000000), .int (d.fmod 1000000)]], [(nx "cell", .int d)]⟩) (D.vali (D.slice (S₁ := ⟨[x0, x1], [(nx "script", .c (.ref 349))]⟩) (S₂ := ⟨[x0, x1], [(nx "script", .c (.ref 349))]⟩) (S₃ := ⟨[x0, x1], [(nx "script", .c (.ref 349))]⟩) (S₄ := ⟨[x0, x1], [(nx "script", .c (.ref 349))]⟩) (by kernel_rfl) (by kernel_rfl) (by kernel_rfl) (by kernel_rfl) (hk _ _ (by kernel_rfl))) (by kernel_rfl)) (by kernel_rfl) (by kernel_rfl) (by kernel_rfl)
    · kernel_rfl
  | [a, b, c, d, e], P, hk, hm =>
    refine ⟨.list [.int a, .int b, .int c, .int d, .int e], .list [.int (a.fmod 1000000), .int (b.fmod 1000000), .int (c.fmod 1000000), .int (d.fmod 1000000), .int (e.fmod 1000000)], .list [.int 3, .int 40, .int 12, .int 7, .int 18, .int 31], .list [.int 31], ?_⟩
    unfold F_numbers
    apply D.fn (S := ⟨[x0, x1], [(nx "script", .c (.ref 349))]⟩) (S' := ⟨[x0, x1, .list [.int a, .int b, .int c, .int d, .int e], .list [.int (a.fmod 1000000), .int (b.fmod 1000000), .int (c.fmod 1000000), .int (d.fmod 1000000), .int (e.fmod 1000000)], .list [.int 3, .int 40, .int 12, .int 7, .int 18, .int 31], .list [.int 31], .list [.int (a.fmod 1000000), .int (b.fmod 1000000), .int (c.fmod 1000000), .int (d.fmod 1000000), .int (e.fmod 1000000), .int 31]], [(nx "script", .c (.ref 349)), (nx "drawn", .obj 3)]⟩)
    · rfl
    · kernel_rfl
    · unfold B_numbers
      dsimp only
      refine D.next (S₁ := ⟨[x0, x1, .list [.int a, .int b, .int c, .int d, .int e], .list [.int (a.fmod 1000000), .int (b.fmod 1000000), .int (c.fmod 1000000), .int (d.fmod 1000000), .int (e.fmod 1000000)]], [(nx "script", .c (.ref 349)), (nx "drawn", .obj 3)]⟩) ?_ (D.stop (D.ret (by kernel_rfl)))
      refine D.swap (S₁ := ⟨[x0, x1, .list [.int a, .int b, .int c, .int d, .int e], .list [.int (a.fmod 1000000), .int (b.fmod 1000000), .int (c.fmod 1000000), .int (d.fmod 1000000), .int (e.fmod 1000000)]], [(nx "script", .c (.ref 349))]⟩) (v := .obj 3) ?_ (by kernel_rfl)
      exact D.comps (src := .leaf (.list 2 0)) (S₁ := ⟨[x0, x1, .list [.int a, .int b, .int c, .int d, .int e]], [(nx "script", .c (.ref 349))]⟩) (S₂ := ⟨[x0, x1, .list [.int a, .int b, .int c, .int d, .int e], .list [.int (a.fmod 1000000), .int (b.fmod 1000000), .int (c.fmod 1000000), .int (d.fmod 1000000), .int (e.fmod 1000000)]], [(nx "cell", .int e)]⟩) (D.vali (D.slice (S₁ := ⟨[x0, x1], [(nx "script", .c (.ref 349))]⟩) (S₂ := ⟨[x0, x1], [(nx "script", .c (.ref 349))]⟩) (S₃ := ⟨[x0, x1], [(nx "script", .c (.ref 349))]⟩) (S₄ := ⟨[x0, x1], [(nx "script", .c (.ref 349))]⟩) (by kernel_rfl) (by kernel_rfl) (by kernel_rfl) (by kernel_rfl) (hk _ _ (by kernel_rfl))) (by kernel_rfl)) (by kernel_rfl) (by kernel_rfl) (by kernel_rfl)
    · kernel_rfl
  | a :: b :: c :: d :: e :: f :: r, P, hk, hm =>
    refine ⟨.list [.int a, .int b, .int c, .int d, .int e, .int f], .list [.int (a.fmod 1000000), .int (b.fmod 1000000), .int (c.fmod 1000000), .int (d.fmod 1000000), .int (e.fmod 1000000), .int (f.fmod 1000000)], .list [.int 3, .int 40, .int 12, .int 7, .int 18, .int 31], .list [], ?_⟩
    unfold F_numbers
    apply D.fn (S := ⟨[x0, x1], [(nx "script", .c (.ref 349))]⟩) (S' := ⟨[x0, x1, .list [.int a, .int b, .int c, .int d, .int e, .int f], .list [.int (a.fmod 1000000), .int (b.fmod 1000000), .int (c.fmod 1000000), .int (d.fmod 1000000), .int (e.fmod 1000000), .int (f.fmod 1000000)], .list [.int 3, .int 40, .int 12, .int 7, .int 18, .int 31], .list [], .list [.int (a.fmod 1000000), .int (b.fmod 1000000), .int (c.fmod 1000000), .int (d.fmod 1000000), .int (e.fmod 1000000), .int (f.fmod 1000000)]], [(nx "script", .c (.ref 349)), (nx "drawn", .obj 3)]⟩)
    · rfl
    · kernel_rfl
    · unfold B_numbers
      dsimp only
      refine D.next (S₁ := ⟨[x0, x1, .list [.int a, .int b, .int c, .int d, .int e, .int f], .list [.int (a.fmod 1000000), .int (b.fmod 1000000), .int (c.fmod 1000000), .int (d.fmod 1000000), .int (e.fmod 1000000), .int (f.fmod 1000000)]], [(nx "script", .c (.ref 349)), (nx "drawn", .obj 3)]⟩) ?_ (D.stop (D.ret (by kernel_rfl)))
      refine D.swap (S₁ := ⟨[x0, x1, .list [.int a, .int b, .int c, .int d, .int e, .int f], .list [.int (a.fmod 1000000), .int (b.fmod 1000000), .int (c.fmod 1000000), .int (d.fmod 1000000), .int (e.fmod 1000000), .int (f.fmod 1000000)]], [(nx "script", .c (.ref 349))]⟩) (v := .obj 3) ?_ (by kernel_rfl)
      exact D.comps (src := .leaf (.list 2 0)) (S₁ := ⟨[x0, x1, .list [.int a, .int b, .int c, .int d, .int e, .int f]], [(nx "script", .c (.ref 349))]⟩) (S₂ := ⟨[x0, x1, .list [.int a, .int b, .int c, .int d, .int e, .int f], .list [.int (a.fmod 1000000), .int (b.fmod 1000000), .int (c.fmod 1000000), .int (d.fmod 1000000), .int (e.fmod 1000000), .int (f.fmod 1000000)]], [(nx "cell", .int f)]⟩) (D.vali (D.slice (S₁ := ⟨[x0, x1], [(nx "script", .c (.ref 349))]⟩) (S₂ := ⟨[x0, x1], [(nx "script", .c (.ref 349))]⟩) (S₃ := ⟨[x0, x1], [(nx "script", .c (.ref 349))]⟩) (S₄ := ⟨[x0, x1], [(nx "script", .c (.ref 349))]⟩) (by kernel_rfl) (by kernel_rfl) (by kernel_rfl) (by kernel_rfl) (hk _ _ (hm _ _ _ _ _ _ _ rfl))) (by kernel_rfl)) (by kernel_rfl) (by kernel_rfl) (by kernel_rfl)
    · kernel_rfl
/-- the figures of a number -/
noncomputable def f1 (d : Int) : Nat := ((d.fmod 25).fdiv 5).toNat
noncomputable def f2 (d : Int) : Nat := (d.fmod 5).toNat
noncomputable def f3 (d : Int) : Nat := ((d.fdiv 25).fmod 2).toNat
theorem num_of (d : Int) : Num d (f1 d) (f2 d) (f3 d) := by
  unfold f1 f2 f3
  constructor <;> (rw [Int.fmod_eq_emod_of_nonneg _ (by decide)]; try rw [Int.fdiv_eq_ediv_of_nonneg _ (by decide)]) <;> omega
theorem yw_num (d : Int) : 1 + d.fmod 25 = yw (f1 d) (f2 d) := by
  unfold yw f1 f2
  rw [Int.fmod_eq_emod_of_nonneg _ (by decide), Int.fmod_eq_emod_of_nonneg _ (by decide), Int.fdiv_eq_ediv_of_nonneg _ (by decide)]
  omega
end
end Mine
end
section
open PySem PySem.W PyProof.Rows
set_option Elab.async false
set_option maxRecDepth 100000
set_option linter.all false
set_option autoImplicit false
namespace Mine
theorem strOk_word {a b : Nat} (h1 : a < 5) (h2 : b < 5) : PyData.strOk (word a b) = true := by
  match a, b, h1, h2 with
  | 0, 0, _, _ => kernel_rfl
  | 0, 1, _, _ => kernel_rfl
  | 0, 2, _, _ => kernel_rfl
  | 0, 3, _, _ => kernel_rfl
  | 0, 4, _, _ => kernel_rfl
  | 1, 0, _, _ => kernel_rfl
  | 1, 1, _, _ => kernel_rfl
  | 1, 2, _, _ => kernel_rfl
  | 1, 3, _, _ => kernel_rfl
  | 1, 4, _, _ => kernel_rfl
  | 2, 0, _, _ => kernel_rfl
  | 2, 1, _, _ => kernel_rfl
  | 2, 2, _, _ => kernel_rfl
  | 2, 3, _, _ => kernel_rfl
  | 2, 4, _, _ => kernel_rfl
  | 3, 0, _, _ => kernel_rfl
  | 3, 1, _, _ => kernel_rfl
  | 3, 2, _, _ => kernel_rfl
  | 3, 3, _, _ => kernel_rfl
  | 3, 4, _, _ => kernel_rfl
  | 4, 0, _, _ => kernel_rfl
  | 4, 1, _, _ => kernel_rfl
  | 4, 2, _, _ => kernel_rfl
  | 4, 3, _, _ => kernel_rfl
  | 4, 4, _, _ => kernel_rfl
  | _ + 5, _, h, _ => omega
  | _, _ + 5, _, h => omega
theorem ne_same {H : List AO} {i j : Nat} {l : List AV} {ds : List PyData} (hi : H[i]? = some (.list l)) (hj : H[j]? = some (.list l)) (hd : leavesD l = some ds) (hl : (PyData.list ds).layable0 = true) : dataNeA H (.obj i) (.obj j) = some (false, H) := by
  have e1 : dataD H (.obj i) = some (.list ds) := by unfold dataD; rw [show (AV.obj i).obj? = some i from rfl, Option.bind_some, listAt_eq hi, Option.bind_some, hd]; rfl
  have e2 : dataD H (.obj j) = some (.list ds) := by unfold dataD; rw [show (AV.obj j).obj? = some j from rfl, Option.bind_some, listAt_eq hj, Option.bind_some, hd]; rfl
  have hc : (PyData.list ds).canLay0 = true := by
    unfold PyData.layable0 at hl
    exact (Bool.and_eq_true_iff.mp (Bool.and_eq_true_iff.mp hl).1).1
  refine bindI e1 (bindI e2 ((if_pos ⟨hl, hl⟩).trans ?_))
  show some (!(PyData.list ds).eqv (PyData.list ds), H) = _
  rw [SeqAt.eqv_refl _ hc]
  rfl
theorem eq_pair {H : List AO} {i j : Int} {a b : Nat} (h1 : Bd' a i) (h2 : Bd' b j) (ha : a ≤ 1000) (hb : b ≤ 1000) : dataEqA H (.tup [.int i, .int j]) (.tup [.int i, .int j]) = some (true, H) := by
  have e1 : dataD H (.tup [.int i, .int j]) = some (.tuple [.int i, .int j]) := rfl
  have hl : (PyData.tuple [.int i, .int j]).layable0 = true := by
    unfold PyData.layable0
    have hw : (PyData.tuple [.int i, .int j]).weight ≤ 2 ^ 20 := by
      have g1 : PyData.weight (.int i) ≤ a + 1 := bits_le h1
      have g2 : PyData.weight (.int j) ≤ b + 1 := bits_le h2
      show PyData.weight (.int i) + 1 + (PyData.weight (.int j) + 1 + 0) ≤ 2 ^ 20
      have : (2 : Nat) ^ 20 = 1048576 := by decide
      omega
    have hd : (PyData.tuple [.int i, .int j]).depth ≤ 64 := by
      show max 0 (max 0 0) + 1 ≤ 64
      decide
    rw [decide_eq_true hw, decide_eq_true hd]
    rfl
  unfold dataEqA dataA
  rw [e1, Option.bind_some, Option.bind_some, if_pos (And.intro hl hl), SeqAt.eqv_refl _ rfl]
noncomputable def dsW (k1 k2 : Nat → Nat) : List PyData := [.str ⟨#[97]⟩, .str (word (k1 0) (k2 0)), .str ⟨#[98]⟩, .str (word (k1 1) (k2 1)), .str ⟨#[99]⟩, .str (word (k1 2) (k2 2)), .str ⟨#[100]⟩, .str (word (k1 3) (k2 3)), .str ⟨#[101]⟩, .str (word (k1 4) (k2 4)), .str ⟨#[102]⟩, .str (word (k1 5) (k2 5)), .str (nx "abcdef"), .str (nx "")]
theorem lay_words {k1 k2 : Nat → Nat} (h1 : ∀ i, k1 i < 5) (h2 : ∀ i, k2 i < 5) : (PyData.list (dsW k1 k2)).layable0 = true := by
  unfold PyData.layable0
  have hc : (PyData.list (dsW k1 k2)).canLay0 = true := by
    unfold dsW
    simp only [PyData.canLay0, PyData.canLayAll0, strOk_word (h1 _) (h2 _), Bool.and_true, Bool.true_and]
    kernel_rfl
  have hw : (PyData.list (dsW k1 k2)).weight ≤ 2 ^ 20 := by
    have : (PyData.list (dsW k1 k2)).weight = 38 := by kernel_rfl
    rw [this]; decide
  have hd : (PyData.list (dsW k1 k2)).depth ≤ 64 := by
    have : (PyData.list (dsW k1 k2)).depth = 1 := by kernel_rfl
    rw [this]; decide
  rw [decide_eq_true hw, decide_eq_true hd, hc]
  rfl
section
variable {G : Glob} {n : Nat} {mg mb mn mh : Names} {script : List Int}
set_option maxHeartbeats 4000000 in
theorem ev_rounds (P : Txt G mg mb mn mh script) (z : Nat → AO) (text : Str) (ln : Int) (gone : List AV) (T : List AO) : F_rounds P n (LX mg z text ln gone [.str (nx "abcdef")] ++ T) [.obj 26] [] = some (.c .none, LX mg z text ln gone (rows15.map .str) ++ T) := by kernel_rfl
end
end Mine
end
section
open PySem PySem.W PyProof.Rows
set_option Elab.async false
set_option maxRecDepth 100000
set_option linter.all false
set_option autoImplicit false
namespace Mine
noncomputable def Z0 (y2 y3 y4 y5 : AO) : Nat → AO
  | 0 => .tab 288 true
  | 1 => .cell none
  | 2 => y2
  | 3 => y3
  | 4 => y4
  | _ => y5
section
variable (y2 y3 y4 y5 : AO) (d : Nat → Int) (k1 k2 q : Nat → Nat)
noncomputable def Z1 : Nat → AO := fun i => ((tE (Z0 y2 y3 y4 y5) d k1 k2 q).hp).getD i (.cell none)
noncomputable def Z2 : Nat → AO
  | 0 => .tab 288 false
  | 1 => .cell (some (.obj 26))
  | i => Z1 y2 y3 y4 y5 d k1 k2 q i
end
noncomputable def wT (x : Fin 14 → AO) : List AO := [.meth (.ref 66) 26, x 0, .meth (.ref 66) 26, x 1, .meth (.ref 66) 26, x 2, .meth (.ref 66) 26, x 3, .meth (.ref 66) 26, x 4, .meth (.ref 66) 26, x 5, .meth (.ref 66) 26, x 6, .meth (.ref 66) 26, x 7, .meth (.ref 66) 26, x 8, .meth (.ref 66) 26, x 9, .meth (.ref 66) 26, x 10, .meth (.ref 66) 26, x 11, .meth (.ref 66) 26, x 12, .meth (.ref 66) 26, x 13]
theorem wT_of {xs : List AO} (h : xs.length = 14) : ∃ x, (xs.flatMap fun X => [AO.meth (.ref 66) 26, X]) = wT x := by
  obtain ⟨x0, t0, rfl⟩ := List.exists_cons_of_length_eq_add_one h
  replace h := Nat.succ.inj h
  obtain ⟨x1, t1, rfl⟩ := List.exists_cons_of_length_eq_add_one h
  replace h := Nat.succ.inj h
  obtain ⟨x2, t2, rfl⟩ := List.exists_cons_of_length_eq_add_one h
  replace h := Nat.succ.inj h
  obtain ⟨x3, t3, rfl⟩ := List.exists_cons_of_length_eq_add_one h
  replace h := Nat.succ.inj h
  obtain ⟨x4, t4, rfl⟩ := List.exists_cons_of_length_eq_add_one h
  replace h := Nat.succ.inj h
  obtain ⟨x5, t5, rfl⟩ := List.exists_cons_of_length_eq_add_one h
  replace h := Nat.succ.inj h
  obtain ⟨x6, t6, rfl⟩ := List.exists_cons_of_length_eq_add_one h
  replace h := Nat.succ.inj h
  obtain ⟨x7, t7, rfl⟩ := List.exists_cons_of_length_eq_add_one h
  replace h := Nat.succ.inj h
  obtain ⟨x8, t8, rfl⟩ := List.exists_cons_of_length_eq_add_one h
  replace h := Nat.succ.inj h
  obtain ⟨x9, t9, rfl⟩ := List.exists_cons_of_length_eq_add_one h
  replace h := Nat.succ.inj h
  obtain ⟨x10, t10, rfl⟩ := List.exists_cons_of_length_eq_add_one h
  replace h := Nat.succ.inj h
  obtain ⟨x11, t11, rfl⟩ := List.exists_cons_of_length_eq_add_one h
  replace h := Nat.succ.inj h
  obtain ⟨x12, t12, rfl⟩ := List.exists_cons_of_length_eq_add_one h
  replace h := Nat.succ.inj h
  obtain ⟨x13, t13, rfl⟩ := List.exists_cons_of_length_eq_add_one h
  replace h := Nat.succ.inj h
  cases List.length_eq_zero_iff.mp h
  exact ⟨fun t => [x0, x1, x2, x3, x4, x5, x6, x7, x8, x9, x10, x11, x12, x13].get t, rfl⟩
namespace D
noncomputable def X (v : AV) (o : Option (AFl × St)) : Prop := ∃ S', o = some (.ret v, S') ∧ S'.hp[0]? = some (.tab 288 false)
theorem X.next {F Fs : St → Option (AFl × St)} {S S₁ : St} {v : AV} (h : F S = some (.next, S₁)) (k : X v (Fs S₁)) : X v (seqF F Fs S) := by
  rw [show seqF F Fs S = Fs S₁ from D.next h rfl]; exact k
theorem X.ff {Fb : St → Option (Bool × St)} {Ft Fe : St → Option (AFl × St)} {S S₁ : St} {v : AV} (h : Fb S = some (false, S₁)) (k : X v (Fe S₁)) : X v (test Fb Ft Fe S) := by unfold test; rw [h]; exact k
theorem X.ret {F : St → Option (AV × St)} {Fs : St → Option (AFl × St)} {S : St} {v : AV} (h : ∃ S', F S = some (v, S') ∧ S'.hp[0]? = some (.tab 288 false)) : X v (seqF (fun S => (F S).map (fun p => (AFl.ret p.1, p.2))) Fs S) := by
  obtain ⟨S', h, k⟩ := h
  exact ⟨S', D.stop (D.ret h), k⟩
theorem X.fn {scope : Scope} {bnd : BndT} {cs₀ : List (Str × Nat)} {Fb : List (Str × Nat) → St → Option (AFl × St)} {H H₁ : List AO} {args : List AV} {kw : List (Str × AV)} {ab : List (Str × AV)} {S : St} {v : AV} (h1 : bnd H args kw = some (ab, H₁)) (h2 : storeAll ⟨scope, (layA scope.names cs₀ H₁).1⟩ ab ⟨(layA scope.names cs₀ H₁).2, []⟩ = some S)
    (h3 : X v (Fb (layA scope.names cs₀ H₁).1 S)) : ∃ H', fnF scope bnd cs₀ Fb H args kw = some (v, H') ∧ H'[0]? = some (.tab 288 false) := by
  obtain ⟨S', h3, k⟩ := h3
  exact ⟨S'.hp, D.fn h1 h2 h3 rfl, k⟩
theorem X.comp {k : Nat} {target : Expr} {Fi : St → Option (ISrc × St)} {Fa Fst : AV → St → Option St} {Fe : St → Option (AV × St)} {Fs : St → Option (AFl × St)} {src : ISrc} {S S₁ : St} {v : AV} (Q : St → Prop) (h1 : Fi S = some (src, S₁)) (h2 : targetOk src target = true) (h3 : ∃ S₂, compF Fa Fe S₁.hp.length k src ⟨S₁.hp ++ [.list []], []⟩ = some S₂ ∧ Q S₂)
    (h4 : ∀ S₂, Q S₂ → ∃ S₃, Fst (.obj S₁.hp.length) ⟨S₂.hp, S₁.loc⟩ = some S₃ ∧ X v (Fs S₃)) : X v (seqF (swapF (compE k target Fi Fa Fe) Fst) Fs S) := by
  obtain ⟨S₂, e, hq⟩ := h3
  obtain ⟨S₃, e3, hx⟩ := h4 S₂ hq
  exact X.next (D.swap (D.comps h1 h2 rfl e) e3) hx
end D
noncomputable def sF (k1 k2 : Nat → Nat) (e l : Nat) : Int := strcollI (word (k1 l) (k2 l)) (word (k1 e) (k2 e))
noncomputable def dF (k1 k2 : Nat → Nat) (e l : Nat) : Int := yw (k1 l) (k2 l) - yw (k1 e) (k2 e)
noncomputable def bF (k1 k2 : Nat → Nat) (e l : Nat) : Int := yw (k1 e) (k2 e) + yw (k1 l) (k2 l)
noncomputable def yF (k1 k2 : Nat → Nat) (i : Nat) : Int := yw (k1 i) (k2 i)
theorem bd_str (a b : Str) : Bd' 1 (strcollI a b) := by
  unfold strcollI b2A Bd'
  split <;> split <;> decide
theorem yw_pos {a b : Nat} : 1 ≤ yw a b := by unfold yw; omega
theorem yw_le {a b : Nat} (h1 : a < 5) (h2 : b < 5) : yw a b ≤ 25 := by unfold yw; omega
theorem bd_sum {a b c d : Nat} (h1 : a < 5) (h2 : b < 5) (h3 : c < 5) (h4 : d < 5) : Bd' 6 (yw a b + yw c d) := by
  have := @yw_pos a b; have := @yw_pos c d; have := yw_le h1 h2; have := yw_le h3 h4
  unfold Bd'; show _ ≤ 64; omega
theorem bd_dif {a b c d : Nat} (h1 : a < 5) (h2 : b < 5) (h3 : c < 5) (h4 : d < 5) : Bd' 6 (yw a b - yw c d) := by
  have := @yw_pos a b; have := @yw_pos c d; have := yw_le h1 h2; have := yw_le h3 h4
  unfold Bd'; show _ ≤ 64; omega
theorem D.cmp {Fl Fr : St → Option (AV × St)} {f : List AO → AV → AV → Option (Bool × List AO)} {S S' : St} {b : Bool} (h : Mine.two Fl Fr f S = some (b, S')) : (Mine.two Fl Fr f S).map (fun p => (AV.c (.bool p.1), p.2)) = some (AV.c (.bool b), S') := by rw [h]; rfl
section
variable {G : Glob} {n : Nat} {mg mb mn mh : Names} {script : List Int}
theorem words14 (P : Txt G mg mb mn mh script) (z : Nat → AO) {cs : List Nat} {k1 k2 : Nat → Nat} {p'' i : Nat} {S : St} {Fa : AV → St → Option St} {Fe : St → Option (AV × St)} (hi : i = 28) (hS : S = ⟨LXp mg z cs 0 [] ++ [.list []], []⟩) (ht : Toks cs 0 (toksL k1 k2) p'') (hFa : ∀ hp loc (i : Nat), ∃ loc', Fa (.int (0 + i)) ⟨hp, loc⟩ = some ⟨hp, loc'⟩)
    (hFe : ∀ p T loc tk p', p ≤ cs.length → lexO 64 (cs.drop p) p = some (tk, p') → ∃ X, Fe ⟨LXp mg z cs p [] ++ T, loc⟩ = some (.str ⟨tk.toArray⟩, ⟨LXp mg z cs p' [] ++ (T ++ [.meth (.ref 66) 26, X]), loc⟩)) :
    ∃ S₂, compF Fa Fe i 64 (.leaf (.seq (([0, 1, 2, 3, 4, 5, 6, 7, 8, 9, 10, 11, 12, 13] : List Nat).map fun (j : Nat) => .int (0 + j)))) S = some S₂ ∧ ∃ x, S₂.hp = LXp mg z cs p'' [] ++ (.list (wordsW k1 k2) :: wT x) := by
  subst hi hS
  obtain ⟨xs, loc', h1, h2⟩ := comp_words P z hFa hFe _ _ _ ht 64 [] [] [] [0, 1, 2, 3, 4, 5, 6, 7, 8, 9, 10, 11, 12, 13] rfl (by simp [toksL]) (by simp [toksL])
  obtain ⟨x, hx⟩ := wT_of (xs := xs) (by rw [h1]; rfl)
  rw [hx] at h2
  exact ⟨_, h2, x, rfl⟩
set_option maxHeartbeats 40000000 in
theorem ev_law (P : Txt G mg mb mn mh script) (hz : script.length ≤ 63) (hM : ∀ k1 k2 : Nat → Nat, (∀ i, k1 i < 5) → (∀ i, k2 i < 5) → sgs (sF k1 k2) 15 = (if oP (yF k1 k2) 15 = 0 then 0 else 1 - 2 * (oT (yF k1 k2) 15).fmod 2) ∧ tot (dF k1 k2) (bF k1 k2) 15 = oP (yF k1 k2) 15) : ∃ H', F_law P n [.tab 288 true] [.c (.ref 349)] [] = some (.c (.bool true), H') ∧ H'[0]? = some (.tab 288 false) := by
  obtain ⟨y2, y3, y4, y5, hnum⟩ := ev_numbers (n := n + 3) P (.tab 288 true) (.cell none) hz
  let d := dN script
  let k1 : Nat → Nat := fun i => f1 (d i)
  let k2 : Nat → Nat := fun i => f2 (d i)
  let q : Nat → Nat := fun i => f3 (d i)
  have hN : ∀ i, Num (d i) (k1 i) (k2 i) (q i) := fun i => num_of (d i)
  have hk1 : ∀ i, k1 i < 5 := fun i => (hN i).h1
  have hk2 : ∀ i, k2 i < 5 := fun i => (hN i).h2
  have hq : ∀ i, q i < 2 := fun i => (hN i).h3
  change F_numbers P (n + 3) [.tab 288 true, .cell none] [.c (.ref 349)] [] = some (.obj 6, [.tab 288 true, .cell none, y2, y3, y4, y5, .list [.int (d 0), .int (d 1), .int (d 2), .int (d 3), .int (d 4), .int (d 5)]]) at hnum
  have htxt := ev_text (n := n + 3) P (Z0 y2 y3 y4 y5) d k1 k2 q hN
  have hlex := ev_lexer (n := n + 2) P (Z1 y2 y3 y4 y5 d k1 k2 q) (text k1 k2 q)
  have hw : ∀ i, 1 + (d i).fmod 25 = yF k1 k2 i := fun i => yw_num (d i)
  clear_value k1 k2 q d
  let L0 : List (Str × AV) := [(nx "script", .c (.ref 349))]
  let L1 : List (Str × AV) := [(nx "script", .c (.ref 349)), (nx "numbers", .obj 6)]
  let L2 : List (Str × AV) := [(nx "script", .c (.ref 349)), (nx "numbers", .obj 6), (nx "text", .str (text k1 k2 q)), (nx "awaited", .obj 16)]
  let L3 : List (Str × AV) := [(nx "script", .c (.ref 349)), (nx "numbers", .obj 6), (nx "text", .str (text k1 k2 q)), (nx "awaited", .obj 16), (nx "words", .obj 28)]
  let L4 : List (Str × AV) := [(nx "script", .c (.ref 349)), (nx "numbers", .obj 6), (nx "text", .str (text k1 k2 q)), (nx "awaited", .obj 16), (nx "words", .obj 28), (nx "rows", .obj 57)]
  let S1 : St := ⟨[.tab 288 true, .cell none], L0⟩
  let S2 : St := ⟨[.tab 288 true, .cell none, y2, y3, y4, y5, .list [.int (d 0), .int (d 1), .int (d 2), .int (d 3), .int (d 4), .int (d 5)]], L1⟩
  let S3 : St := ⟨(tE (Z0 y2 y3 y4 y5) d k1 k2 q).hp, L2⟩
  let Z := Z2 y2 y3 y4 y5 d k1 k2 q
  let S4 : St := ⟨LX mg Z (text k1 k2 q) 1 [] [], L2⟩
  obtain ⟨p'', htk, hp, hpe⟩ := toks_all k1 k2 q hk1 hk2 hq
  unfold F_law
  apply D.X.fn (S := S1)
  · rfl
  · kernel_rfl
  have e : (layA (dfn 30).2.2.names [] [.tab 288 true]).1 = [(Str.ofString "line", 1)] := by kernel_rfl
  rw [e]
  unfold B_law
  dsimp only
  rw [show List.lookup (Str.ofString "line") [(Str.ofString "line", 1)] = some 1 from rfl]
  dsimp only
  refine D.X.next (S₁ := S2) (D.asg (S₁ := ⟨S2.hp, L0⟩) (v := .obj 6) (D.call (S₁ := S1) (S₂ := S1) (as := [.c (.ref 349)]) (ks := []) (by kernel_rfl) (by kernel_rfl) rfl hnum) (by kernel_rfl)) ?_
  refine D.X.next (S₁ := S3) (D.asg (S₁ := ⟨S3.hp, L1⟩) (v := .tup [.str (text k1 k2 q), .obj 16]) (D.call (S₁ := S2) (S₂ := S2) (as := [.obj 6]) (ks := []) (by kernel_rfl) (by kernel_rfl) rfl htxt) (by kernel_rfl)) ?_
  refine D.X.next (S₁ := S4) (D.asg (S₁ := ⟨LX mg (zt (Z1 y2 y3 y4 y5 d k1 k2 q)) (text k1 k2 q) 1 [] [], L2⟩) (v := .obj 26) (D.call (S₁ := S3) (S₂ := S3) (as := [.str (text k1 k2 q)]) (ks := []) (by kernel_rfl) (by kernel_rfl) rfl hlex) (by kernel_rfl)) ?_
  have hcs : (csL k1 k2 q).length ≤ 1000 := Nat.le_trans (cs_len k1 k2 q) (by decide)
  refine D.X.comp (src := .leaf (.seq (([0, 1, 2, 3, 4, 5, 6, 7, 8, 9, 10, 11, 12, 13] : List Nat).map fun (j : Nat) => .int (0 + j)))) (S₁ := S4) (fun S => ∃ x, S.hp = LXp mg Z (csL k1 k2 q) p'' [] ++ (.list (wordsW k1 k2) :: wT x)) (by kernel_rfl) (by kernel_rfl) ?_ ?_
  · refine words14 P Z (by kernel_rfl) (by kernel_rfl) htk (fun hp loc i => ⟨_, rfl⟩) (fun p T loc tk p' hp hl => ?_)
    obtain ⟨X, h⟩ := ev_get (n := n + 1) P Z hcs (cs_ascii k1 k2 q) (cs_alpha k1 k2 q) p hp T tk p' hl
    exact ⟨X, D.meth (S₀ := ⟨LXp mg Z (csL k1 k2 q) p [] ++ T, loc⟩) (S₁ := ⟨LXp mg Z (csL k1 k2 q) p [] ++ T, loc⟩) (S₂ := ⟨LXp mg Z (csL k1 k2 q) p [] ++ T, loc⟩) (a := .obj 26) (as := []) (ks := []) (by kernel_rfl) (by kernel_rfl) (by kernel_rfl) rfl h⟩
  rintro ⟨hp5, loc5⟩ ⟨x, rfl⟩
  clear hnum htxt hlex htk
  have hasc := cs_ascii k1 k2 q
  have halp := cs_alpha k1 k2 q
  have hlexe : lexO 64 ((csL k1 k2 q).drop p'') p'' = some ([], p'') := by rw [hpe]; rfl
  generalize hcsd : csL k1 k2 q = cs at *
  let T5 : List AO := .list (wordsW k1 k2) :: wT x
  let S5 : St := ⟨LXp mg Z cs p'' [] ++ T5, L3⟩
  refine ⟨S5, by kernel_rfl, ?_⟩
  refine D.X.next (S₁ := S5) (D.ff (S₁ := S5) (D.two (S₁ := S5) (S₂ := S5) (a := .obj 28) (b := .obj 16) (by kernel_rfl) (by kernel_rfl) (ne_same (l := wordsW k1 k2) (ds := dsW k1 k2) (by kernel_rfl) (by kernel_rfl) (by kernel_rfl) (lay_words hk1 hk2))) rfl) ?_
  let ln := lnAt cs p''
  let gone := (cs.take p'').map chrA
  let S6 : St := ⟨LX mg Z ⟨cs.toArray⟩ ln gone [.str (nx "abcdef")] ++ T5, L3⟩
  refine D.X.next (S₁ := S6) (D.expr (D.meth (S₀ := S5) (S₁ := S5) (S₂ := S5) (a := .obj 26) (as := [.str (nx "abcdef")]) (ks := []) (by kernel_rfl) (by kernel_rfl) (by kernel_rfl) rfl (ev_push P Z ⟨cs.toArray⟩ ln gone T5 _))) ?_
  let S7 : St := ⟨LX mg Z ⟨cs.toArray⟩ ln gone (rows15.map .str) ++ T5, L3⟩
  refine D.X.next (S₁ := S7) (D.expr (D.call (S₁ := S6) (S₂ := S6) (as := [.obj 26]) (ks := []) (by kernel_rfl) (by kernel_rfl) rfl (ev_rounds P Z ⟨cs.toArray⟩ ln gone T5))) ?_
  let T8 : List AO := T5 ++ [.list (rows15.map .str)]
  refine D.X.comp (src := .leaf (.seq (([0, 1, 2, 3, 4, 5, 6, 7, 8, 9, 10, 11, 12, 13, 14] : List Nat).map fun (j : Nat) => .int (0 + j)))) (S₁ := S7) (fun S => S = ⟨LXp mg Z cs p'' [] ++ T8, [(nx "turn", .int 14)]⟩) (by kernel_rfl) (by kernel_rfl) ⟨_, by kernel_rfl, rfl⟩ ?_
  rintro _ rfl
  let S8 : St := ⟨LXp mg Z cs p'' [] ++ T8, L4⟩
  refine ⟨S8, by kernel_rfl, ?_⟩
  obtain ⟨X, hget⟩ := ev_get (n := n + 1) P Z hcs hasc halp p'' hp T8 [] p'' hlexe
  let H9 : List AO := LXp mg Z cs p'' [] ++ (T8 ++ [.meth (.ref 66) 26, X])
  let S9 : St := ⟨H9, L4⟩
  refine D.X.next (S₁ := S9) (D.ff (S₁ := S9) (D.two (S₁ := S9) (S₂ := S9) (a := .str ⟨#[]⟩) (b := .str (nx "")) (D.meth (S₀ := S8) (S₁ := S8) (S₂ := S8) (a := .obj 26) (as := []) (ks := []) (by kernel_rfl) (by kernel_rfl) (by kernel_rfl) rfl hget) (by kernel_rfl) (by kernel_rfl)) rfl) ?_
  clear hget
  let u : Nat → AO := fun i => H9.getD i (.cell none)
  have hU : UL u (wordsW k1 k2) = H9 := by kernel_rfl
  let H10 : List AO := hT6 u k1 k2 ++ [.list (toldW k1 k2)]
  have htab : F_table P (n + 1) H9 [.obj 28] [] = some (.obj 78, H10) := by
    have h := ev_table (n := n + 1) P u k1 k2 hk1 hk2
    rw [hU] at h
    exact h
  let u2 : Nat → AO := fun i => H10.getD i (.cell none)
  have hV : VL u2 (toldW k1 k2) = H10 := by kernel_rfl
  let u3 : Nat → AO := fun i => (H10 ++ [AO.cell (some (.str sgnS)), AO.dict (pairsD k1 k2), AO.list (worthsL k1 k2)]).getD i (.cell none)
  let H11 : List AO := HS u3 (tt3 (sF k1 k2) (dF k1 k2) (bF k1 k2))
  have hH : H10 ++ [.cell (some (.str sgnS)), .dict (pairsD k1 k2), .list (worthsL k1 k2)] = H11 := by kernel_rfl
  have hpairs : F_pairs P (n + 3) H10 [.obj 78] [] = some (.obj 80, H11) := by
    have h := ev_pairs (n := n + 3) P u2 k1 k2 hk1 hk2
    rw [hV, hH] at h
    exact h
  have hsums := ev_sums (n := n + 3) P u3 (sF k1 k2) (dF k1 k2) (bF k1 k2) (fun e l => bd_str _ _) (fun e l => bd_dif (hk1 _) (hk2 _) (hk1 _) (hk2 _)) (fun e l => bd_sum (hk1 _) (hk2 _) (hk1 _) (hk2 _)) (fun e l => by
    have h1 := @yw_pos (k1 e) (k2 e)
    have h2 := @yw_pos (k1 l) (k2 l)
    unfold bF; omega)
  have hord := ev_order (n := n + 4) P u3 (tt3 (sF k1 k2) (dF k1 k2) (bF k1 k2)) (yF k1 k2) (fun a b => bd_dif (hk1 _) (hk2 _) (hk1 _) (hk2 _))
  obtain ⟨hm1, hm2⟩ := hM k1 k2 hk1 hk2
  have hb1 : Bd' 1 (if oP (yF k1 k2) 15 = 0 then 0 else 1 - 2 * (oT (yF k1 k2) 15).fmod 2) := by
    split
    · unfold Bd'; decide
    · have h1 := Int.fmod_nonneg_of_pos (oT (yF k1 k2) 15) (b := 2) (by decide)
      have h2 := Int.fmod_lt_of_pos (oT (yF k1 k2) 15) (b := 2) (by decide)
      unfold Bd'
      omega
  have hb2 : Bd' (6 * 15) (oP (yF k1 k2) 15) := bd_prd (fun k => bd_dif (hk1 _) (hk2 _) (hk1 _) (hk2 _)) 15
  rw [hm1, hm2] at hsums
  have hwf : (fun i => 1 + (d i).fmod 25) = yF k1 k2 := funext hw
  generalize (if oP (yF k1 k2) 15 = 0 then 0 else 1 - 2 * (oT (yF k1 k2) 15).fmod 2) = A1 at *
  generalize oP (yF k1 k2) 15 = A2 at *
  let H12 : List AO := HO u3 (tt3 (sF k1 k2) (dF k1 k2) (bF k1 k2)) (yF k1 k2)
  let S10 : St := ⟨H10, L4⟩
  let S11 : St := ⟨H11, L4⟩
  let S12 : St := ⟨H12, L4⟩
  refine D.X.ret ⟨S12, D.cmp (D.two (S₁ := S11) (S₂ := S12) (a := .tup [.int A1, .int A2]) (b := .tup [.int A1, .int A2]) ?_ ?_ (eq_pair hb1 hb2 (by decide) (by decide))), by kernel_rfl⟩
  · refine D.call (S₁ := S11) (S₂ := S11) (as := [.obj 57, .obj 80]) (ks := []) (by kernel_rfl) (D.cons (S₁ := S9) (by kernel_rfl) (D.cons (S₁ := S11) ?_ rfl)) rfl hsums
    refine D.call (S₁ := S10) (S₂ := S10) (as := [.obj 78]) (ks := []) (by kernel_rfl) (D.cons (S₁ := S10) ?_ rfl) rfl hpairs
    exact D.call (S₁ := S9) (S₂ := S9) (as := [.obj 28]) (ks := []) (by kernel_rfl) (by kernel_rfl) rfl htab
  · refine D.call (S₁ := S12) (S₂ := S12) (as := [.obj 82]) (ks := []) (by kernel_rfl) (D.cons (S₁ := S12) ?_ rfl) rfl hord
    have hc : H12 = HO u3 (tt3 (sF k1 k2) (dF k1 k2) (bF k1 k2)) (fun i => 1 + (d i).fmod 25) := by rw [hwf]
    refine D.comps (src := .leaf (.list 6 0)) (S₁ := S11) (S₂ := ⟨H12, [(nx "number", .int (d 5))]⟩) (by kernel_rfl) (by kernel_rfl) (by kernel_rfl) ?_
    rw [hc]
    kernel_rfl
end
end Mine
end
section
namespace Mine
set_option maxHeartbeats 0
set_option maxRecDepth 100000
theorem A0 (b c d e : Int) : (c-d)*(c-e)*(d-e)*((b+c)*(b+d)*(b+e)) - (b-d)*(b-e)*(d-e)*((c+b)*(c+d)*(c+e)) + (b-c)*(b-e)*(c-e)*((d+b)*(d+c)*(d+e)) - (b-c)*(b-d)*(c-d)*((e+b)*(e+c)*(e+d)) = 0 := by grind
theorem S1 (z b c d e : Int) : 
   2*((c-d)*(c-e)*(d-e)*((b+c)*(b+d)*(b+e))*b*((z+c)*(z+d)*(z+e)) - (b-d)*(b-e)*(d-e)*((c+b)*(c+d)*(c+e))*c*((z+b)*(z+d)*(z+e)) + (b-c)*(b-e)*(c-e)*((d+b)*(d+c)*(d+e))*d*((z+b)*(z+c)*(z+e)) - (b-c)*(b-d)*(c-d)*((e+b)*(e+c)*(e+d))*e*((z+b)*(z+c)*(z+d)))
   = (b-c)*(b-d)*(b-e)*(c-d)*(c-e)*(d-e)*((z+b)*(z+c)*(z+d)*(z+e) - (z-b)*(z-c)*(z-d)*(z-e)) := by grind
theorem J (x a y Q R : Int) : (x+a)*((x-y)*(a+y)*Q*R) = (x+a)*(((x+y)*Q)*((a-y)*R)) + 2*(x-a)*y*(Q*((a-y)*R) + R*((x+y)*Q)) := by grind
theorem comb (x a Ab Ac Ad Ae b c d e Qb Qc Qd Qe Rb Rc Rd Re M N Ma Na V tb tc td te : Int) (hA : Ab - Ac + Ad - Ae = 0) (hQ : 2*(Ab*b*Qb - Ac*c*Qc + Ad*d*Qd - Ae*e*Qe) = V*(M - N)) (hR : 2*(Ab*b*Rb - Ac*c*Rc + Ad*d*Rd - Ae*e*Re) = V*(Ma - Na))
   (hb : tb = (x+a)*(M*Na) + 2*(x-a)*b*(Qb*Na + Rb*M)) (hc : tc = (x+a)*(M*Na) + 2*(x-a)*c*(Qc*Na + Rc*M)) (hd : td = (x+a)*(M*Na) + 2*(x-a)*d*(Qd*Na + Rd*M)) (he : te = (x+a)*(M*Na) + 2*(x-a)*e*(Qe*Na + Re*M)) :
   (x-a)*M*V*Ma - Ab*tb + Ac*tc - Ad*td + Ae*te = (x-a)*N*(Na*V) := by
  subst hb hc hd he
  have e1 : (x-a)*M*V*Ma - Ab*((x+a)*(M*Na) + 2*(x-a)*b*(Qb*Na + Rb*M)) + Ac*((x+a)*(M*Na) + 2*(x-a)*c*(Qc*Na + Rc*M)) - Ad*((x+a)*(M*Na) + 2*(x-a)*d*(Qd*Na + Rd*M)) + Ae*((x+a)*(M*Na) + 2*(x-a)*e*(Qe*Na + Re*M))
      = (x-a)*M*V*Ma - (Ab - Ac + Ad - Ae)*((x+a)*(M*Na)) - (x-a)*(Na*(2*(Ab*b*Qb - Ac*c*Qc + Ad*d*Qd - Ae*e*Qe)) + M*(2*(Ab*b*Rb - Ac*c*Rc + Ad*d*Rd - Ae*e*Re))) := by grind
  rw [e1, hA, hQ, hR]
  grind
theorem s6 (x a b c d e : Int) : 
   (x-a)*((x+b)*(x+c)*(x+d)*(x+e))*((b-c)*(b-d)*(b-e)*(c-d)*(c-e)*(d-e))*((a+b)*(a+c)*(a+d)*(a+e))
 - (c-d)*(c-e)*(d-e)*((b+c)*(b+d)*(b+e))*((x+a)*((x-b)*(a+b)*((x+c)*(x+d)*(x+e))*((a-c)*(a-d)*(a-e))))
 + (b-d)*(b-e)*(d-e)*((c+b)*(c+d)*(c+e))*((x+a)*((x-c)*(a+c)*((x+b)*(x+d)*(x+e))*((a-b)*(a-d)*(a-e))))
 - (b-c)*(b-e)*(c-e)*((d+b)*(d+c)*(d+e))*((x+a)*((x-d)*(a+d)*((x+b)*(x+c)*(x+e))*((a-b)*(a-c)*(a-e))))
 + (b-c)*(b-d)*(c-d)*((e+b)*(e+c)*(e+d))*((x+a)*((x-e)*(a+e)*((x+b)*(x+c)*(x+d))*((a-b)*(a-c)*(a-d))))
 = (x-a)*((x-b)*(x-c)*(x-d)*(x-e))*(((a-b)*(a-c)*(a-d)*(a-e))*((b-c)*(b-d)*(b-e)*(c-d)*(c-e)*(d-e))) := by
  refine comb x a _ _ _ _ b c d e ((x+c)*(x+d)*(x+e)) ((x+b)*(x+d)*(x+e)) ((x+b)*(x+c)*(x+e)) ((x+b)*(x+c)*(x+d)) ((a-c)*(a-d)*(a-e)) ((a-b)*(a-d)*(a-e)) ((a-b)*(a-c)*(a-e)) ((a-b)*(a-c)*(a-d)) _ _ _ _ _ _ _ _ _ (A0 b c d e) (S1 x b c d e) ?_ ?_ ?_ ?_ ?_
  · have h := S1 (-a) b c d e
    have e1 : (-a+c)*(-a+d)*(-a+e) = -((a-c)*(a-d)*(a-e)) := by grind
    have e2 : (-a+b)*(-a+d)*(-a+e) = -((a-b)*(a-d)*(a-e)) := by grind
    have e3 : (-a+b)*(-a+c)*(-a+e) = -((a-b)*(a-c)*(a-e)) := by grind
    have e4 : (-a+b)*(-a+c)*(-a+d) = -((a-b)*(a-c)*(a-d)) := by grind
    have e5 : (-a+b)*(-a+c)*(-a+d)*(-a+e) - (-a-b)*(-a-c)*(-a-d)*(-a-e) = -((a+b)*(a+c)*(a+d)*(a+e) - (a-b)*(a-c)*(a-d)*(a-e)) := by grind
    rw [e1, e2, e3] at h
    rw [e5, e4] at h
    generalize (a-c)*(a-d)*(a-e) = R1 at *
    generalize (a-b)*(a-d)*(a-e) = R2 at *
    generalize (a-b)*(a-c)*(a-e) = R3 at *
    generalize (a-b)*(a-c)*(a-d) = R4 at *
    generalize (c-d)*(c-e)*(d-e)*((b+c)*(b+d)*(b+e)) = B1 at *
    generalize (b-d)*(b-e)*(d-e)*((c+b)*(c+d)*(c+e)) = B2 at *
    generalize (b-c)*(b-e)*(c-e)*((d+b)*(d+c)*(d+e)) = B3 at *
    generalize (b-c)*(b-d)*(c-d)*((e+b)*(e+c)*(e+d)) = B4 at *
    generalize (b-c)*(b-d)*(b-e)*(c-d)*(c-e)*(d-e) = V at *
    generalize (a+b)*(a+c)*(a+d)*(a+e) = Ma at *
    grind
  · have := J x a b ((x+c)*(x+d)*(x+e)) ((a-c)*(a-d)*(a-e)); grind
  · have := J x a c ((x+b)*(x+d)*(x+e)) ((a-b)*(a-d)*(a-e)); grind
  · have := J x a d ((x+b)*(x+c)*(x+e)) ((a-b)*(a-c)*(a-e)); grind
  · have := J x a e ((x+b)*(x+c)*(x+d)) ((a-b)*(a-c)*(a-d)); grind
end Mine
end
section
open PySem PySem.W PyProof.Rows
set_option Elab.async false
set_option maxRecDepth 100000
set_option linter.all false
set_option autoImplicit false
namespace Mine
noncomputable def sgn3 (a b : Int) : Int := b2A (decide (b < a)) - b2A (decide (a < b))
theorem sgn3_skew (a b : Int) : sgn3 a b = - sgn3 b a := by unfold sgn3; omega
theorem sg_lt {a b : Nat} (h1 : a < 5) (h2 : b < 5) : sg a < sg b ↔ a < b := by
  match a, b, h1, h2 with
  | 0, 0, _, _ => decide
  | 0, 1, _, _ => decide
  | 0, 2, _, _ => decide
  | 0, 3, _, _ => decide
  | 0, 4, _, _ => decide
  | 1, 0, _, _ => decide
  | 1, 1, _, _ => decide
  | 1, 2, _, _ => decide
  | 1, 3, _, _ => decide
  | 1, 4, _, _ => decide
  | 2, 0, _, _ => decide
  | 2, 1, _, _ => decide
  | 2, 2, _, _ => decide
  | 2, 3, _, _ => decide
  | 2, 4, _, _ => decide
  | 3, 0, _, _ => decide
  | 3, 1, _, _ => decide
  | 3, 2, _, _ => decide
  | 3, 3, _, _ => decide
  | 3, 4, _, _ => decide
  | 4, 0, _, _ => decide
  | 4, 1, _, _ => decide
  | 4, 2, _, _ => decide
  | 4, 3, _, _ => decide
  | 4, 4, _, _ => decide
  | _ + 5, _, h, _ => omega
  | _, _ + 5, _, h => omega
theorem word_lt {a b c d : Nat} (h1 : a < 5) (h2 : b < 5) (h3 : c < 5) (h4 : d < 5) : (word a b).cps.toList < (word c d).cps.toList ↔ yw a b < yw c d := by
  have e1 : (word a b).cps.toList = [sg a, sg b] := rfl
  have e2 : (word c d).cps.toList = [sg c, sg d] := rfl
  have g1 := sg_lt h1 h3
  have g2 := sg_lt h3 h1
  have g3 := sg_lt h2 h4
  rw [e1, e2, List.cons_lt_cons_iff, List.cons_lt_cons_iff]
  simp only [List.not_lt_nil, and_false, or_false]
  unfold yw
  constructor
  · rintro (h | ⟨h, k⟩)
    · have := g1.mp h; omega
    · have := g3.mp k
      have n1 : ¬ a < c := fun z => by have := g1.mpr z; omega
      have n2 : ¬ c < a := fun z => by have := g2.mpr z; omega
      omega
  · intro h
    by_cases hac : a < c
    · exact .inl (g1.mpr hac)
    · have : a = c := by omega
      subst this
      exact .inr ⟨rfl, g3.mpr (by omega)⟩
theorem sF_eq {k1 k2 : Nat → Nat} (h1 : ∀ i, k1 i < 5) (h2 : ∀ i, k2 i < 5) (e l : Nat) : sF k1 k2 e l = sgn3 (yF k1 k2 l) (yF k1 k2 e) := by
  unfold sF strcollI sgn3 yF
  simp only [word_lt (h1 _) (h2 _) (h1 _) (h2 _)]
/-- the order's sign is the product of all signs -/
theorem order_sign (y : Nat → Int) : ∀ k, (oP y k = 0 → prd (fun k => sgn3 (y (pOne k)) (y (pTwo k))) k = 0) ∧ (oP y k ≠ 0 → prd (fun k => sgn3 (y (pOne k)) (y (pTwo k))) k = 1 - 2 * (oT y k).fmod 2)
  | 0 => ⟨fun h => absurd h (by show ¬ (1 : Int) = 0; decide), fun _ => rfl⟩
  | k + 1 => by
    obtain ⟨h1, h2⟩ := order_sign y k
    have e1 : oP y (k + 1) = oP y k * (y (pOne k) - y (pTwo k)) := rfl
    have e2 : oT y (k + 1) = oT y k + b2A (decide (y (pOne k) < y (pTwo k))) := rfl
    have e3 : prd (fun k => sgn3 (y (pOne k)) (y (pTwo k))) (k + 1) = prd (fun k => sgn3 (y (pOne k)) (y (pTwo k))) k * sgn3 (y (pOne k)) (y (pTwo k)) := rfl
    rw [e1, e2, e3]
    generalize prd (fun k => sgn3 (y (pOne k)) (y (pTwo k))) k = F at *
    generalize oP y k = O at *
    generalize oT y k = t at *
    generalize y (pOne k) = a at *
    generalize y (pTwo k) = b at *
    rw [Int.fmod_eq_emod_of_nonneg _ (by decide)] at *
    unfold sgn3 b2A
    constructor
    · intro h
      rcases Int.mul_eq_zero.mp h with h | h
      · rw [h1 h, Int.zero_mul]
      · have : a = b := by omega
        subst this
        simp
    · intro h
      have ho : O ≠ 0 := fun z => h (by rw [z, Int.zero_mul])
      have hab : a - b ≠ 0 := fun z => h (by rw [z, Int.mul_zero])
      rw [h2 ho]
      rcases Int.lt_or_gt_of_ne (show a ≠ b by omega) with hl | hl
      · have n : ¬ b < a := by omega
        simp only [decide_eq_true hl, decide_eq_false n]
        simp
        omega
      · have n : ¬ a < b := by omega
        simp only [decide_eq_true hl, decide_eq_false n]
        simp
noncomputable def Pf (s01 s02 s03 s04 s05 s12 s13 s14 s15 s23 s24 s25 s34 s35 s45 : Int) : Prop := s01 * s23 * s45 + s01 * (-s24) * s35 + s01 * s25 * s34 + (-s02) * s13 * s45 + (-s02) * (-s14) * s35 + (-s02) * s15 * s34 + s03 * s12 * s45 + s03 * (-s14) * s25 + s03 * s15 * s24 + (-s04) * s12 * s35 + (-s04) * (-s13) * s25 + (-s04) * s15 * s23 + s05 * s12 * s34 + s05 * (-s13) * s24 + s05 * s14 * s23 = s01 * s02 * s03 * s04 * s05 * s12 * s13 * s14 * s15 * s23 * s24 * s25 * s34 * s35 * s45
noncomputable def PQ (a b c d e f : Int) : Prop := Pf (sgn3 b a) (sgn3 c a) (sgn3 d a) (sgn3 e a) (sgn3 f a) (sgn3 c b) (sgn3 d b) (sgn3 e b) (sgn3 f b) (sgn3 d c) (sgn3 e c) (sgn3 f c) (sgn3 e d) (sgn3 f d) (sgn3 f e)
theorem pq_swap0 (a b c d e f : Int) (h : PQ b a c d e f) : PQ a b c d e f := by
  unfold PQ Pf at *
  rw [sgn3_skew a b] at h
  generalize sgn3 b a = s01 at *
  generalize sgn3 c a = s02 at *
  generalize sgn3 d a = s03 at *
  generalize sgn3 e a = s04 at *
  generalize sgn3 f a = s05 at *
  generalize sgn3 c b = s12 at *
  generalize sgn3 d b = s13 at *
  generalize sgn3 e b = s14 at *
  generalize sgn3 f b = s15 at *
  generalize sgn3 d c = s23 at *
  generalize sgn3 e c = s24 at *
  generalize sgn3 f c = s25 at *
  generalize sgn3 e d = s34 at *
  generalize sgn3 f d = s35 at *
  generalize sgn3 f e = s45 at *
  grind
theorem pq_swap1 (a b c d e f : Int) (h : PQ a c b d e f) : PQ a b c d e f := by
  unfold PQ Pf at *
  rw [sgn3_skew b c] at h
  generalize sgn3 b a = s01 at *
  generalize sgn3 c a = s02 at *
  generalize sgn3 d a = s03 at *
  generalize sgn3 e a = s04 at *
  generalize sgn3 f a = s05 at *
  generalize sgn3 c b = s12 at *
  generalize sgn3 d b = s13 at *
  generalize sgn3 e b = s14 at *
  generalize sgn3 f b = s15 at *
  generalize sgn3 d c = s23 at *
  generalize sgn3 e c = s24 at *
  generalize sgn3 f c = s25 at *
  generalize sgn3 e d = s34 at *
  generalize sgn3 f d = s35 at *
  generalize sgn3 f e = s45 at *
  grind
theorem pq_swap2 (a b c d e f : Int) (h : PQ a b d c e f) : PQ a b c d e f := by
  unfold PQ Pf at *
  rw [sgn3_skew c d] at h
  generalize sgn3 b a = s01 at *
  generalize sgn3 c a = s02 at *
  generalize sgn3 d a = s03 at *
  generalize sgn3 e a = s04 at *
  generalize sgn3 f a = s05 at *
  generalize sgn3 c b = s12 at *
  generalize sgn3 d b = s13 at *
  generalize sgn3 e b = s14 at *
  generalize sgn3 f b = s15 at *
  generalize sgn3 d c = s23 at *
  generalize sgn3 e c = s24 at *
  generalize sgn3 f c = s25 at *
  generalize sgn3 e d = s34 at *
  generalize sgn3 f d = s35 at *
  generalize sgn3 f e = s45 at *
  grind
theorem pq_swap3 (a b c d e f : Int) (h : PQ a b c e d f) : PQ a b c d e f := by
  unfold PQ Pf at *
  rw [sgn3_skew d e] at h
  generalize sgn3 b a = s01 at *
  generalize sgn3 c a = s02 at *
  generalize sgn3 d a = s03 at *
  generalize sgn3 e a = s04 at *
  generalize sgn3 f a = s05 at *
  generalize sgn3 c b = s12 at *
  generalize sgn3 d b = s13 at *
  generalize sgn3 e b = s14 at *
  generalize sgn3 f b = s15 at *
  generalize sgn3 d c = s23 at *
  generalize sgn3 e c = s24 at *
  generalize sgn3 f c = s25 at *
  generalize sgn3 e d = s34 at *
  generalize sgn3 f d = s35 at *
  generalize sgn3 f e = s45 at *
  grind
theorem pq_swap4 (a b c d e f : Int) (h : PQ a b c d f e) : PQ a b c d e f := by
  unfold PQ Pf at *
  rw [sgn3_skew e f] at h
  generalize sgn3 b a = s01 at *
  generalize sgn3 c a = s02 at *
  generalize sgn3 d a = s03 at *
  generalize sgn3 e a = s04 at *
  generalize sgn3 f a = s05 at *
  generalize sgn3 c b = s12 at *
  generalize sgn3 d b = s13 at *
  generalize sgn3 e b = s14 at *
  generalize sgn3 f b = s15 at *
  generalize sgn3 d c = s23 at *
  generalize sgn3 e c = s24 at *
  generalize sgn3 f c = s25 at *
  generalize sgn3 e d = s34 at *
  generalize sgn3 f d = s35 at *
  generalize sgn3 f e = s45 at *
  grind
theorem lt_split {x y z : Int} (h1 : x ≤ y) (h2 : y ≤ z) : decide (x < z) = (decide (x < y) || decide (y < z)) := by
  rw [← Bool.decide_or]
  congr 1
  apply propext
  omega
theorem sgn3_le {x y : Int} (h : x ≤ y) : sgn3 y x = b2A (decide (x < y)) := by
  unfold sgn3
  have : ¬ y < x := by omega
  rw [decide_eq_false this]
  show _ - 0 = _
  omega
theorem pq_bool : ∀ p q r s t : Bool, Pf (b2A (p)) (b2A ((p || q))) (b2A (((p || q) || r))) (b2A ((((p || q) || r) || s))) (b2A (((((p || q) || r) || s) || t))) (b2A (q)) (b2A ((q || r))) (b2A (((q || r) || s))) (b2A ((((q || r) || s) || t))) (b2A (r)) (b2A ((r || s))) (b2A (((r || s) || t))) (b2A (s)) (b2A ((s || t))) (b2A (t)) := by
  intro p q r s t
  unfold Pf
  revert p q r s t
  decide
theorem pq_sorted (a b c d e f : Int) (hab : a ≤ b) (hbc : b ≤ c) (hcd : c ≤ d) (hde : d ≤ e) (hef : e ≤ f) : PQ a b c d e f := by
  have hac : a ≤ c := Int.le_trans hab hbc
  have hbd : b ≤ d := Int.le_trans hbc hcd
  have hce : c ≤ e := Int.le_trans hcd hde
  have hdf : d ≤ f := Int.le_trans hde hef
  have had : a ≤ d := Int.le_trans hac hcd
  have hbe : b ≤ e := Int.le_trans hbd hde
  have hcf : c ≤ f := Int.le_trans hce hef
  have hae : a ≤ e := Int.le_trans had hde
  have hbf : b ≤ f := Int.le_trans hbe hef
  have haf : a ≤ f := Int.le_trans hae hef
  unfold PQ
  rw [sgn3_le hab, sgn3_le hac, sgn3_le had, sgn3_le hae, sgn3_le haf, sgn3_le hbc, sgn3_le hbd, sgn3_le hbe, sgn3_le hbf, sgn3_le hcd, sgn3_le hce, sgn3_le hcf, sgn3_le hde, sgn3_le hdf, sgn3_le hef]
  rw [lt_split hae hef]
  rw [lt_split had hde]
  rw [lt_split hbe hef]
  rw [lt_split hac hcd]
  rw [lt_split hbd hde]
  rw [lt_split hce hef]
  rw [lt_split hab hbc]
  rw [lt_split hbc hcd]
  rw [lt_split hcd hde]
  rw [lt_split hde hef]
  exact pq_bool _ _ _ _ _
noncomputable def QL : List Int → Prop
  | [a, b, c, d, e, f] => PQ a b c d e f
  | _ => True
theorem ql_swap (x y : Int) : ∀ pre l : List Int, QL (pre ++ y :: x :: l) → QL (pre ++ x :: y :: l)
  | [], [c, d, e, f], h => pq_swap0 _ _ _ _ _ _ h
  | [a], [d, e, f], h => pq_swap1 _ _ _ _ _ _ h
  | [a, b], [e, f], h => pq_swap2 _ _ _ _ _ _ h
  | [a, b, c], [f], h => pq_swap3 _ _ _ _ _ _ h
  | [a, b, c, d], [], h => pq_swap4 _ _ _ _ _ _ h
  | [], [], _ => trivial
  | [], [_], _ => trivial
  | [], [_, _], _ => trivial
  | [], [_, _, _], _ => trivial
  | [], _ :: _ :: _ :: _ :: _ :: _, _ => trivial
  | [_], [], _ => trivial
  | [_], [_], _ => trivial
  | [_], [_, _], _ => trivial
  | [_], _ :: _ :: _ :: _ :: _, _ => trivial
  | [_, _], [], _ => trivial
  | [_, _], [_], _ => trivial
  | [_, _], _ :: _ :: _ :: _, _ => trivial
  | [_, _, _], [], _ => trivial
  | [_, _, _], _ :: _ :: _, _ => trivial
  | [_, _, _, _], _ :: _, _ => trivial
  | _ :: _ :: _ :: _ :: _ :: r, l, _ => by
    cases r with
    | nil => cases l <;> trivial
    | cons r0 r => cases r <;> trivial
theorem ql_perm {l l' : List Int} (h : l.Perm l') : ∀ pre : List Int, QL (pre ++ l) → QL (pre ++ l') := by
  induction h with
  | nil => exact fun _ h => h
  | @cons x l l' _ ih => 
    intro pre h
    have := ih (pre ++ [x]) (by simpa using h)
    simpa using this
  | swap x y l => exact fun pre h => ql_swap x y pre l h
  | trans _ _ ih1 ih2 => exact fun pre h => ih2 pre (ih1 pre h)
theorem pq_all (a b c d e f : Int) : PQ a b c d e f := by
  have hp := List.mergeSort_perm [a, b, c, d, e, f] (fun x y => decide (x ≤ y))
  have hs := List.pairwise_mergeSort (le := fun x y : Int => decide (x ≤ y)) (fun x y z h k => by simp at *; omega) (fun x y => by simp; omega) [a, b, c, d, e, f]
  have hl := hp.length_eq
  generalize List.mergeSort [a, b, c, d, e, f] (fun x y => decide (x ≤ y)) = m at *
  refine ql_perm hp [] ?_
  match m, hl with
  | [a', b', c', d', e', f'], _ =>
    simp at hs
    exact pq_sorted _ _ _ _ _ _ (by omega) (by omega) (by omega) (by omega) (by omega)
theorem signs_law {k1 k2 : Nat → Nat} (h1 : ∀ i, k1 i < 5) (h2 : ∀ i, k2 i < 5) : sgs (sF k1 k2) 15 = (if oP (yF k1 k2) 15 = 0 then 0 else 1 - 2 * (oT (yF k1 k2) 15).fmod 2) := by
  have hs : sF k1 k2 = fun e l => sgn3 (yF k1 k2 l) (yF k1 k2 e) := by funext e l; exact sF_eq h1 h2 e l
  obtain ⟨g1, g2⟩ := order_sign (yF k1 k2) 15
  rw [hs]
  generalize yF k1 k2 = y at *
  have e1 : sgs (fun e l => sgn3 (y l) (y e)) 15 = 0 + 1 * sgn3 (y 1) (y 0) * sgn3 (y 3) (y 2) * sgn3 (y 5) (y 4) + 1 * sgn3 (y 1) (y 0) * sgn3 (y 2) (y 4) * sgn3 (y 5) (y 3) + 1 * sgn3 (y 1) (y 0) * sgn3 (y 5) (y 2) * sgn3 (y 4) (y 3) + 1 * sgn3 (y 0) (y 2) * sgn3 (y 3) (y 1) * sgn3 (y 5) (y 4) + 1 * sgn3 (y 0) (y 2) * sgn3 (y 1) (y 4) * sgn3 (y 5) (y 3) + 1 * sgn3 (y 0) (y 2) * sgn3 (y 5) (y 1) * sgn3 (y 4) (y 3) + 1 * sgn3 (y 3) (y 0) * sgn3 (y 2) (y 1) * sgn3 (y 5) (y 4) + 1 * sgn3 (y 3) (y 0) * sgn3 (y 1) (y 4) * sgn3 (y 5) (y 2) + 1 * sgn3 (y 3) (y 0) * sgn3 (y 5) (y 1) * sgn3 (y 4) (y 2) + 1 * sgn3 (y 0) (y 4) * sgn3 (y 2) (y 1) * sgn3 (y 5) (y 3) + 1 * sgn3 (y 0) (y 4) * sgn3 (y 1) (y 3) * sgn3 (y 5) (y 2) + 1 * sgn3 (y 0) (y 4) * sgn3 (y 5) (y 1) * sgn3 (y 3) (y 2) + 1 * sgn3 (y 5) (y 0) * sgn3 (y 2) (y 1) * sgn3 (y 4) (y 3) + 1 * sgn3 (y 5) (y 0) * sgn3 (y 1) (y 3) * sgn3 (y 4) (y 2) + 1 * sgn3 (y 5) (y 0) * sgn3 (y 4) (y 1) * sgn3 (y 3) (y 2) := by kernel_rfl
  have e2 : prd (fun k => sgn3 (y (pOne k)) (y (pTwo k))) 15 = 1 * sgn3 (y 1) (y 0) * sgn3 (y 2) (y 0) * sgn3 (y 2) (y 1) * sgn3 (y 3) (y 0) * sgn3 (y 3) (y 1) * sgn3 (y 3) (y 2) * sgn3 (y 4) (y 0) * sgn3 (y 4) (y 1) * sgn3 (y 4) (y 2) * sgn3 (y 4) (y 3) * sgn3 (y 5) (y 0) * sgn3 (y 5) (y 1) * sgn3 (y 5) (y 2) * sgn3 (y 5) (y 3) * sgn3 (y 5) (y 4) := by kernel_rfl
  have hq := pq_all (y 0) (y 1) (y 2) (y 3) (y 4) (y 5)
  have key : sgs (fun e l => sgn3 (y l) (y e)) 15 = prd (fun k => sgn3 (y (pOne k)) (y (pTwo k))) 15 := by
    rw [e1, e2]
    unfold PQ Pf at hq
    rw [sgn3_skew (y 0) (y 2), sgn3_skew (y 1) (y 3), sgn3_skew (y 0) (y 4), sgn3_skew (y 1) (y 4), sgn3_skew (y 2) (y 4)]
    generalize sgn3 (y 1) (y 0) = s01 at *
    generalize sgn3 (y 2) (y 0) = s02 at *
    generalize sgn3 (y 3) (y 0) = s03 at *
    generalize sgn3 (y 4) (y 0) = s04 at *
    generalize sgn3 (y 5) (y 0) = s05 at *
    generalize sgn3 (y 2) (y 1) = s12 at *
    generalize sgn3 (y 3) (y 1) = s13 at *
    generalize sgn3 (y 4) (y 1) = s14 at *
    generalize sgn3 (y 5) (y 1) = s15 at *
    generalize sgn3 (y 3) (y 2) = s23 at *
    generalize sgn3 (y 4) (y 2) = s24 at *
    generalize sgn3 (y 5) (y 2) = s25 at *
    generalize sgn3 (y 4) (y 3) = s34 at *
    generalize sgn3 (y 5) (y 3) = s35 at *
    generalize sgn3 (y 5) (y 4) = s45 at *
    grind
  rw [key]
  by_cases hz : oP y 15 = 0
  · rw [if_pos hz, g1 hz]
  · rw [if_neg hz, g2 hz]
end Mine
end
section
open PySem PySem.W PyProof.Rows
set_option Elab.async false
set_option maxRecDepth 100000
set_option linter.all false
set_option autoImplicit false
namespace Mine
theorem s4 (a b c d : Int) : (a-b)*(c-d)*((a+c)*(a+d)*(b+c)*(b+d)) - (a-c)*(b-d)*((a+b)*(a+d)*(b+c)*(c+d)) + (a-d)*(b-c)*((a+b)*(a+c)*(b+d)*(c+d)) = (a-b)*(a-c)*(a-d)*(b-c)*(b-d)*(c-d) := by grind
theorem wq0 (s01 s02 s03 s04 s05 s12 s13 s14 s15 s23 s24 s25 s34 s35 s45 : Int) (h : 0 < ((1 * s01) * s23) * s45) : (1 * s01 * s02 * s12 * s03 * s13 * s23 * s04 * s14 * s24 * s34 * s05 * s15 * s25 * s35 * s45).fdiv (((1 * s01) * s23) * s45) = s02 * s03 * s04 * s05 * s12 * s13 * s14 * s15 * s24 * s25 * s34 * s35 := by
  have e : 1 * s01 * s02 * s12 * s03 * s13 * s23 * s04 * s14 * s24 * s34 * s05 * s15 * s25 * s35 * s45 = (((1 * s01) * s23) * s45) * (s02 * s03 * s04 * s05 * s12 * s13 * s14 * s15 * s24 * s25 * s34 * s35) := by grind
  rw [e]
  exact Int.mul_fdiv_cancel_left _ (by omega)
theorem wq1 (s01 s02 s03 s04 s05 s12 s13 s14 s15 s23 s24 s25 s34 s35 s45 : Int) (h : 0 < ((1 * s01) * s24) * s35) : (1 * s01 * s02 * s12 * s03 * s13 * s23 * s04 * s14 * s24 * s34 * s05 * s15 * s25 * s35 * s45).fdiv (((1 * s01) * s24) * s35) = s02 * s03 * s04 * s05 * s12 * s13 * s14 * s15 * s23 * s25 * s34 * s45 := by
  have e : 1 * s01 * s02 * s12 * s03 * s13 * s23 * s04 * s14 * s24 * s34 * s05 * s15 * s25 * s35 * s45 = (((1 * s01) * s24) * s35) * (s02 * s03 * s04 * s05 * s12 * s13 * s14 * s15 * s23 * s25 * s34 * s45) := by grind
  rw [e]
  exact Int.mul_fdiv_cancel_left _ (by omega)
theorem wq2 (s01 s02 s03 s04 s05 s12 s13 s14 s15 s23 s24 s25 s34 s35 s45 : Int) (h : 0 < ((1 * s01) * s25) * s34) : (1 * s01 * s02 * s12 * s03 * s13 * s23 * s04 * s14 * s24 * s34 * s05 * s15 * s25 * s35 * s45).fdiv (((1 * s01) * s25) * s34) = s02 * s03 * s04 * s05 * s12 * s13 * s14 * s15 * s23 * s24 * s35 * s45 := by
  have e : 1 * s01 * s02 * s12 * s03 * s13 * s23 * s04 * s14 * s24 * s34 * s05 * s15 * s25 * s35 * s45 = (((1 * s01) * s25) * s34) * (s02 * s03 * s04 * s05 * s12 * s13 * s14 * s15 * s23 * s24 * s35 * s45) := by grind
  rw [e]
  exact Int.mul_fdiv_cancel_left _ (by omega)
theorem wq3 (s01 s02 s03 s04 s05 s12 s13 s14 s15 s23 s24 s25 s34 s35 s45 : Int) (h : 0 < ((1 * s02) * s13) * s45) : (1 * s01 * s02 * s12 * s03 * s13 * s23 * s04 * s14 * s24 * s34 * s05 * s15 * s25 * s35 * s45).fdiv (((1 * s02) * s13) * s45) = s01 * s03 * s04 * s05 * s12 * s14 * s15 * s23 * s24 * s25 * s34 * s35 := by
  have e : 1 * s01 * s02 * s12 * s03 * s13 * s23 * s04 * s14 * s24 * s34 * s05 * s15 * s25 * s35 * s45 = (((1 * s02) * s13) * s45) * (s01 * s03 * s04 * s05 * s12 * s14 * s15 * s23 * s24 * s25 * s34 * s35) := by grind
  rw [e]
  exact Int.mul_fdiv_cancel_left _ (by omega)
theorem wq4 (s01 s02 s03 s04 s05 s12 s13 s14 s15 s23 s24 s25 s34 s35 s45 : Int) (h : 0 < ((1 * s02) * s14) * s35) : (1 * s01 * s02 * s12 * s03 * s13 * s23 * s04 * s14 * s24 * s34 * s05 * s15 * s25 * s35 * s45).fdiv (((1 * s02) * s14) * s35) = s01 * s03 * s04 * s05 * s12 * s13 * s15 * s23 * s24 * s25 * s34 * s45 := by
  have e : 1 * s01 * s02 * s12 * s03 * s13 * s23 * s04 * s14 * s24 * s34 * s05 * s15 * s25 * s35 * s45 = (((1 * s02) * s14) * s35) * (s01 * s03 * s04 * s05 * s12 * s13 * s15 * s23 * s24 * s25 * s34 * s45) := by grind
  rw [e]
  exact Int.mul_fdiv_cancel_left _ (by omega)
theorem wq5 (s01 s02 s03 s04 s05 s12 s13 s14 s15 s23 s24 s25 s34 s35 s45 : Int) (h : 0 < ((1 * s02) * s15) * s34) : (1 * s01 * s02 * s12 * s03 * s13 * s23 * s04 * s14 * s24 * s34 * s05 * s15 * s25 * s35 * s45).fdiv (((1 * s02) * s15) * s34) = s01 * s03 * s04 * s05 * s12 * s13 * s14 * s23 * s24 * s25 * s35 * s45 := by
  have e : 1 * s01 * s02 * s12 * s03 * s13 * s23 * s04 * s14 * s24 * s34 * s05 * s15 * s25 * s35 * s45 = (((1 * s02) * s15) * s34) * (s01 * s03 * s04 * s05 * s12 * s13 * s14 * s23 * s24 * s25 * s35 * s45) := by grind
  rw [e]
  exact Int.mul_fdiv_cancel_left _ (by omega)
theorem wq6 (s01 s02 s03 s04 s05 s12 s13 s14 s15 s23 s24 s25 s34 s35 s45 : Int) (h : 0 < ((1 * s03) * s12) * s45) : (1 * s01 * s02 * s12 * s03 * s13 * s23 * s04 * s14 * s24 * s34 * s05 * s15 * s25 * s35 * s45).fdiv (((1 * s03) * s12) * s45) = s01 * s02 * s04 * s05 * s13 * s14 * s15 * s23 * s24 * s25 * s34 * s35 := by
  have e : 1 * s01 * s02 * s12 * s03 * s13 * s23 * s04 * s14 * s24 * s34 * s05 * s15 * s25 * s35 * s45 = (((1 * s03) * s12) * s45) * (s01 * s02 * s04 * s05 * s13 * s14 * s15 * s23 * s24 * s25 * s34 * s35) := by grind
  rw [e]
  exact Int.mul_fdiv_cancel_left _ (by omega)
theorem wq7 (s01 s02 s03 s04 s05 s12 s13 s14 s15 s23 s24 s25 s34 s35 s45 : Int) (h : 0 < ((1 * s03) * s14) * s25) : (1 * s01 * s02 * s12 * s03 * s13 * s23 * s04 * s14 * s24 * s34 * s05 * s15 * s25 * s35 * s45).fdiv (((1 * s03) * s14) * s25) = s01 * s02 * s04 * s05 * s12 * s13 * s15 * s23 * s24 * s34 * s35 * s45 := by
  have e : 1 * s01 * s02 * s12 * s03 * s13 * s23 * s04 * s14 * s24 * s34 * s05 * s15 * s25 * s35 * s45 = (((1 * s03) * s14) * s25) * (s01 * s02 * s04 * s05 * s12 * s13 * s15 * s23 * s24 * s34 * s35 * s45) := by grind
  rw [e]
  exact Int.mul_fdiv_cancel_left _ (by omega)
theorem wq8 (s01 s02 s03 s04 s05 s12 s13 s14 s15 s23 s24 s25 s34 s35 s45 : Int) (h : 0 < ((1 * s03) * s15) * s24) : (1 * s01 * s02 * s12 * s03 * s13 * s23 * s04 * s14 * s24 * s34 * s05 * s15 * s25 * s35 * s45).fdiv (((1 * s03) * s15) * s24) = s01 * s02 * s04 * s05 * s12 * s13 * s14 * s23 * s25 * s34 * s35 * s45 := by
  have e : 1 * s01 * s02 * s12 * s03 * s13 * s23 * s04 * s14 * s24 * s34 * s05 * s15 * s25 * s35 * s45 = (((1 * s03) * s15) * s24) * (s01 * s02 * s04 * s05 * s12 * s13 * s14 * s23 * s25 * s34 * s35 * s45) := by grind
  rw [e]
  exact Int.mul_fdiv_cancel_left _ (by omega)
theorem wq9 (s01 s02 s03 s04 s05 s12 s13 s14 s15 s23 s24 s25 s34 s35 s45 : Int) (h : 0 < ((1 * s04) * s12) * s35) : (1 * s01 * s02 * s12 * s03 * s13 * s23 * s04 * s14 * s24 * s34 * s05 * s15 * s25 * s35 * s45).fdiv (((1 * s04) * s12) * s35) = s01 * s02 * s03 * s05 * s13 * s14 * s15 * s23 * s24 * s25 * s34 * s45 := by
  have e : 1 * s01 * s02 * s12 * s03 * s13 * s23 * s04 * s14 * s24 * s34 * s05 * s15 * s25 * s35 * s45 = (((1 * s04) * s12) * s35) * (s01 * s02 * s03 * s05 * s13 * s14 * s15 * s23 * s24 * s25 * s34 * s45) := by grind
  rw [e]
  exact Int.mul_fdiv_cancel_left _ (by omega)
theorem wq10 (s01 s02 s03 s04 s05 s12 s13 s14 s15 s23 s24 s25 s34 s35 s45 : Int) (h : 0 < ((1 * s04) * s13) * s25) : (1 * s01 * s02 * s12 * s03 * s13 * s23 * s04 * s14 * s24 * s34 * s05 * s15 * s25 * s35 * s45).fdiv (((1 * s04) * s13) * s25) = s01 * s02 * s03 * s05 * s12 * s14 * s15 * s23 * s24 * s34 * s35 * s45 := by
  have e : 1 * s01 * s02 * s12 * s03 * s13 * s23 * s04 * s14 * s24 * s34 * s05 * s15 * s25 * s35 * s45 = (((1 * s04) * s13) * s25) * (s01 * s02 * s03 * s05 * s12 * s14 * s15 * s23 * s24 * s34 * s35 * s45) := by grind
  rw [e]
  exact Int.mul_fdiv_cancel_left _ (by omega)
theorem wq11 (s01 s02 s03 s04 s05 s12 s13 s14 s15 s23 s24 s25 s34 s35 s45 : Int) (h : 0 < ((1 * s04) * s15) * s23) : (1 * s01 * s02 * s12 * s03 * s13 * s23 * s04 * s14 * s24 * s34 * s05 * s15 * s25 * s35 * s45).fdiv (((1 * s04) * s15) * s23) = s01 * s02 * s03 * s05 * s12 * s13 * s14 * s24 * s25 * s34 * s35 * s45 := by
  have e : 1 * s01 * s02 * s12 * s03 * s13 * s23 * s04 * s14 * s24 * s34 * s05 * s15 * s25 * s35 * s45 = (((1 * s04) * s15) * s23) * (s01 * s02 * s03 * s05 * s12 * s13 * s14 * s24 * s25 * s34 * s35 * s45) := by grind
  rw [e]
  exact Int.mul_fdiv_cancel_left _ (by omega)
theorem wq12 (s01 s02 s03 s04 s05 s12 s13 s14 s15 s23 s24 s25 s34 s35 s45 : Int) (h : 0 < ((1 * s05) * s12) * s34) : (1 * s01 * s02 * s12 * s03 * s13 * s23 * s04 * s14 * s24 * s34 * s05 * s15 * s25 * s35 * s45).fdiv (((1 * s05) * s12) * s34) = s01 * s02 * s03 * s04 * s13 * s14 * s15 * s23 * s24 * s25 * s35 * s45 := by
  have e : 1 * s01 * s02 * s12 * s03 * s13 * s23 * s04 * s14 * s24 * s34 * s05 * s15 * s25 * s35 * s45 = (((1 * s05) * s12) * s34) * (s01 * s02 * s03 * s04 * s13 * s14 * s15 * s23 * s24 * s25 * s35 * s45) := by grind
  rw [e]
  exact Int.mul_fdiv_cancel_left _ (by omega)
theorem wq13 (s01 s02 s03 s04 s05 s12 s13 s14 s15 s23 s24 s25 s34 s35 s45 : Int) (h : 0 < ((1 * s05) * s13) * s24) : (1 * s01 * s02 * s12 * s03 * s13 * s23 * s04 * s14 * s24 * s34 * s05 * s15 * s25 * s35 * s45).fdiv (((1 * s05) * s13) * s24) = s01 * s02 * s03 * s04 * s12 * s14 * s15 * s23 * s25 * s34 * s35 * s45 := by
  have e : 1 * s01 * s02 * s12 * s03 * s13 * s23 * s04 * s14 * s24 * s34 * s05 * s15 * s25 * s35 * s45 = (((1 * s05) * s13) * s24) * (s01 * s02 * s03 * s04 * s12 * s14 * s15 * s23 * s25 * s34 * s35 * s45) := by grind
  rw [e]
  exact Int.mul_fdiv_cancel_left _ (by omega)
theorem wq14 (s01 s02 s03 s04 s05 s12 s13 s14 s15 s23 s24 s25 s34 s35 s45 : Int) (h : 0 < ((1 * s05) * s14) * s23) : (1 * s01 * s02 * s12 * s03 * s13 * s23 * s04 * s14 * s24 * s34 * s05 * s15 * s25 * s35 * s45).fdiv (((1 * s05) * s14) * s23) = s01 * s02 * s03 * s04 * s12 * s13 * s15 * s24 * s25 * s34 * s35 * s45 := by
  have e : 1 * s01 * s02 * s12 * s03 * s13 * s23 * s04 * s14 * s24 * s34 * s05 * s15 * s25 * s35 * s45 = (((1 * s05) * s14) * s23) * (s01 * s02 * s03 * s04 * s12 * s13 * s15 * s24 * s25 * s34 * s35 * s45) := by grind
  rw [e]
  exact Int.mul_fdiv_cancel_left _ (by omega)
theorem tot_atoms (d01 d02 d03 d04 d05 d12 d13 d14 d15 d23 d24 d25 d34 d35 d45 s01 s02 s03 s04 s05 s12 s13 s14 s15 s23 s24 s25 s34 s35 s45 : Int) (h1 : d23 * d45 * (s24 * s25 * s34 * s35) - d24 * d35 * (s23 * s25 * s34 * s45) + d25 * d34 * (s23 * s24 * s35 * s45) = d23 * d24 * d25 * d34 * d35 * d45) (h2 : d13 * d45 * (s14 * s15 * s34 * s35) - d14 * d35 * (s13 * s15 * s34 * s45) + d15 * d34 * (s13 * s14 * s35 * s45) = d13 * d14 * d15 * d34 * d35 * d45) (h3 : d12 * d45 * (s14 * s15 * s24 * s25) - d14 * d25 * (s12 * s15 * s24 * s45) + d15 * d24 * (s12 * s14 * s25 * s45) = d12 * d14 * d15 * d24 * d25 * d45) (h4 : d12 * d35 * (s13 * s15 * s23 * s25) - d13 * d25 * (s12 * s15 * s23 * s35) + d15 * d23 * (s12 * s13 * s25 * s35) = d12 * d13 * d15 * d23 * d25 * d35) (h5 : d12 * d34 * (s13 * s14 * s23 * s24) - d13 * d24 * (s12 * s14 * s23 * s34) + d14 * d23 * (s12 * s13 * s24 * s34) = d12 * d13 * d14 * d23 * d24 * d34) (h6 : d01 * (s02 * s03 * s04 * s05) * (d23 * d24 * d25 * d34 * d35 * d45) * (s12 * s13 * s14 * s15) - d34 * d35 * d45 * (s23 * s24 * s25) * (s01 * (d02 * s12 * (s03 * s04 * s05) * (d13 * d14 * d15))) + d24 * d25 * d45 * (s23 * s34 * s35) * (s01 * (d03 * s13 * (s02 * s04 * s05) * (d12 * d14 * d15))) - d23 * d25 * d35 * (s24 * s34 * s45) * (s01 * (d04 * s14 * (s02 * s03 * s05) * (d12 * d13 * d15))) + d23 * d24 * d34 * (s25 * s35 * s45) * (s01 * (d05 * s15 * (s02 * s03 * s04) * (d12 * d13 * d14))) = d01 * (d02 * d03 * d04 * d05) * (d12 * d13 * d14 * d15 * (d23 * d24 * d25 * d34 * d35 * d45))) :
    0 + (1 * (-d01) * (-d23) * (-d45)) * (s02 * s03 * s04 * s05 * s12 * s13 * s14 * s15 * s24 * s25 * s34 * s35) + (1 * (-d01) * (-(-d24)) * (-d35)) * (s02 * s03 * s04 * s05 * s12 * s13 * s14 * s15 * s23 * s25 * s34 * s45) + (1 * (-d01) * (-d25) * (-d34)) * (s02 * s03 * s04 * s05 * s12 * s13 * s14 * s15 * s23 * s24 * s35 * s45) + (1 * (-(-d02)) * (-d13) * (-d45)) * (s01 * s03 * s04 * s05 * s12 * s14 * s15 * s23 * s24 * s25 * s34 * s35) + (1 * (-(-d02)) * (-(-d14)) * (-d35)) * (s01 * s03 * s04 * s05 * s12 * s13 * s15 * s23 * s24 * s25 * s34 * s45) + (1 * (-(-d02)) * (-d15) * (-d34)) * (s01 * s03 * s04 * s05 * s12 * s13 * s14 * s23 * s24 * s25 * s35 * s45) + (1 * (-d03) * (-d12) * (-d45)) * (s01 * s02 * s04 * s05 * s13 * s14 * s15 * s23 * s24 * s25 * s34 * s35) + (1 * (-d03) * (-(-d14)) * (-d25)) * (s01 * s02 * s04 * s05 * s12 * s13 * s15 * s23 * s24 * s34 * s35 * s45) + (1 * (-d03) * (-d15) * (-d24)) * (s01 * s02 * s04 * s05 * s12 * s13 * s14 * s23 * s25 * s34 * s35 * s45) + (1 * (-(-d04)) * (-d12) * (-d35)) * (s01 * s02 * s03 * s05 * s13 * s14 * s15 * s23 * s24 * s25 * s34 * s45) + (1 * (-(-d04)) * (-(-d13)) * (-d25)) * (s01 * s02 * s03 * s05 * s12 * s14 * s15 * s23 * s24 * s34 * s35 * s45) + (1 * (-(-d04)) * (-d15) * (-d23)) * (s01 * s02 * s03 * s05 * s12 * s13 * s14 * s24 * s25 * s34 * s35 * s45) + (1 * (-d05) * (-d12) * (-d34)) * (s01 * s02 * s03 * s04 * s13 * s14 * s15 * s23 * s24 * s25 * s35 * s45) + (1 * (-d05) * (-(-d13)) * (-d24)) * (s01 * s02 * s03 * s04 * s12 * s14 * s15 * s23 * s25 * s34 * s35 * s45) + (1 * (-d05) * (-d14) * (-d23)) * (s01 * s02 * s03 * s04 * s12 * s13 * s15 * s24 * s25 * s34 * s35 * s45) = 1 * (-d01) * (-d02) * (-d12) * (-d03) * (-d13) * (-d23) * (-d04) * (-d14) * (-d24) * (-d34) * (-d05) * (-d15) * (-d25) * (-d35) * (-d45) := by
  have g1 : (d01 * s02 * s03 * s04 * s05 * s12 * s13 * s14 * s15) * (d23 * d45 * (s24 * s25 * s34 * s35) - d24 * d35 * (s23 * s25 * s34 * s45) + d25 * d34 * (s23 * s24 * s35 * s45)) = (d01 * s02 * s03 * s04 * s05 * s12 * s13 * s14 * s15) * (d23 * d24 * d25 * d34 * d35 * d45) := congrArg (fun z => (d01 * s02 * s03 * s04 * s05 * s12 * s13 * s14 * s15) * z) h1
  have g2 : (d02 * s01 * s03 * s04 * s05 * s12 * s23 * s24 * s25) * (d13 * d45 * (s14 * s15 * s34 * s35) - d14 * d35 * (s13 * s15 * s34 * s45) + d15 * d34 * (s13 * s14 * s35 * s45)) = (d02 * s01 * s03 * s04 * s05 * s12 * s23 * s24 * s25) * (d13 * d14 * d15 * d34 * d35 * d45) := congrArg (fun z => (d02 * s01 * s03 * s04 * s05 * s12 * s23 * s24 * s25) * z) h2
  have g3 : (d03 * s01 * s02 * s04 * s05 * s13 * s23 * s34 * s35) * (d12 * d45 * (s14 * s15 * s24 * s25) - d14 * d25 * (s12 * s15 * s24 * s45) + d15 * d24 * (s12 * s14 * s25 * s45)) = (d03 * s01 * s02 * s04 * s05 * s13 * s23 * s34 * s35) * (d12 * d14 * d15 * d24 * d25 * d45) := congrArg (fun z => (d03 * s01 * s02 * s04 * s05 * s13 * s23 * s34 * s35) * z) h3
  have g4 : (d04 * s01 * s02 * s03 * s05 * s14 * s24 * s34 * s45) * (d12 * d35 * (s13 * s15 * s23 * s25) - d13 * d25 * (s12 * s15 * s23 * s35) + d15 * d23 * (s12 * s13 * s25 * s35)) = (d04 * s01 * s02 * s03 * s05 * s14 * s24 * s34 * s45) * (d12 * d13 * d15 * d23 * d25 * d35) := congrArg (fun z => (d04 * s01 * s02 * s03 * s05 * s14 * s24 * s34 * s45) * z) h4
  have g5 : (d05 * s01 * s02 * s03 * s04 * s15 * s25 * s35 * s45) * (d12 * d34 * (s13 * s14 * s23 * s24) - d13 * d24 * (s12 * s14 * s23 * s34) + d14 * d23 * (s12 * s13 * s24 * s34)) = (d05 * s01 * s02 * s03 * s04 * s15 * s25 * s35 * s45) * (d12 * d13 * d14 * d23 * d24 * d34) := congrArg (fun z => (d05 * s01 * s02 * s03 * s04 * s15 * s25 * s35 * s45) * z) h5
  clear h1 h2 h3 h4 h5
  grind
theorem tot_law (y : Nat → Int) (hy : ∀ i, 1 ≤ y i) : tot (fun e l => y l - y e) (fun e l => y e + y l) 15 = oP y 15 := by
  have e1 : tot (fun e l => y l - y e) (fun e l => y e + y l) 15 = 0 + 1 * (y 1 - y 0) * (y 3 - y 2) * (y 5 - y 4) * (1 * (y 1 + y 0) * (y 2 + y 0) * (y 2 + y 1) * (y 3 + y 0) * (y 3 + y 1) * (y 3 + y 2) * (y 4 + y 0) * (y 4 + y 1) * (y 4 + y 2) * (y 4 + y 3) * (y 5 + y 0) * (y 5 + y 1) * (y 5 + y 2) * (y 5 + y 3) * (y 5 + y 4)).fdiv (1 * (y 0 + y 1) * (y 2 + y 3) * (y 4 + y 5)) + 1 * (y 1 - y 0) * (y 2 - y 4) * (y 5 - y 3) * (1 * (y 1 + y 0) * (y 2 + y 0) * (y 2 + y 1) * (y 3 + y 0) * (y 3 + y 1) * (y 3 + y 2) * (y 4 + y 0) * (y 4 + y 1) * (y 4 + y 2) * (y 4 + y 3) * (y 5 + y 0) * (y 5 + y 1) * (y 5 + y 2) * (y 5 + y 3) * (y 5 + y 4)).fdiv (1 * (y 0 + y 1) * (y 4 + y 2) * (y 3 + y 5)) + 1 * (y 1 - y 0) * (y 5 - y 2) * (y 4 - y 3) * (1 * (y 1 + y 0) * (y 2 + y 0) * (y 2 + y 1) * (y 3 + y 0) * (y 3 + y 1) * (y 3 + y 2) * (y 4 + y 0) * (y 4 + y 1) * (y 4 + y 2) * (y 4 + y 3) * (y 5 + y 0) * (y 5 + y 1) * (y 5 + y 2) * (y 5 + y 3) * (y 5 + y 4)).fdiv (1 * (y 0 + y 1) * (y 2 + y 5) * (y 3 + y 4)) + 1 * (y 0 - y 2) * (y 3 - y 1) * (y 5 - y 4) * (1 * (y 1 + y 0) * (y 2 + y 0) * (y 2 + y 1) * (y 3 + y 0) * (y 3 + y 1) * (y 3 + y 2) * (y 4 + y 0) * (y 4 + y 1) * (y 4 + y 2) * (y 4 + y 3) * (y 5 + y 0) * (y 5 + y 1) * (y 5 + y 2) * (y 5 + y 3) * (y 5 + y 4)).fdiv (1 * (y 2 + y 0) * (y 1 + y 3) * (y 4 + y 5)) + 1 * (y 0 - y 2) * (y 1 - y 4) * (y 5 - y 3) * (1 * (y 1 + y 0) * (y 2 + y 0) * (y 2 + y 1) * (y 3 + y 0) * (y 3 + y 1) * (y 3 + y 2) * (y 4 + y 0) * (y 4 + y 1) * (y 4 + y 2) * (y 4 + y 3) * (y 5 + y 0) * (y 5 + y 1) * (y 5 + y 2) * (y 5 + y 3) * (y 5 + y 4)).fdiv (1 * (y 2 + y 0) * (y 4 + y 1) * (y 3 + y 5)) + 1 * (y 0 - y 2) * (y 5 - y 1) * (y 4 - y 3) * (1 * (y 1 + y 0) * (y 2 + y 0) * (y 2 + y 1) * (y 3 + y 0) * (y 3 + y 1) * (y 3 + y 2) * (y 4 + y 0) * (y 4 + y 1) * (y 4 + y 2) * (y 4 + y 3) * (y 5 + y 0) * (y 5 + y 1) * (y 5 + y 2) * (y 5 + y 3) * (y 5 + y 4)).fdiv (1 * (y 2 + y 0) * (y 1 + y 5) * (y 3 + y 4)) + 1 * (y 3 - y 0) * (y 2 - y 1) * (y 5 - y 4) * (1 * (y 1 + y 0) * (y 2 + y 0) * (y 2 + y 1) * (y 3 + y 0) * (y 3 + y 1) * (y 3 + y 2) * (y 4 + y 0) * (y 4 + y 1) * (y 4 + y 2) * (y 4 + y 3) * (y 5 + y 0) * (y 5 + y 1) * (y 5 + y 2) * (y 5 + y 3) * (y 5 + y 4)).fdiv (1 * (y 0 + y 3) * (y 1 + y 2) * (y 4 + y 5)) + 1 * (y 3 - y 0) * (y 1 - y 4) * (y 5 - y 2) * (1 * (y 1 + y 0) * (y 2 + y 0) * (y 2 + y 1) * (y 3 + y 0) * (y 3 + y 1) * (y 3 + y 2) * (y 4 + y 0) * (y 4 + y 1) * (y 4 + y 2) * (y 4 + y 3) * (y 5 + y 0) * (y 5 + y 1) * (y 5 + y 2) * (y 5 + y 3) * (y 5 + y 4)).fdiv (1 * (y 0 + y 3) * (y 4 + y 1) * (y 2 + y 5)) + 1 * (y 3 - y 0) * (y 5 - y 1) * (y 4 - y 2) * (1 * (y 1 + y 0) * (y 2 + y 0) * (y 2 + y 1) * (y 3 + y 0) * (y 3 + y 1) * (y 3 + y 2) * (y 4 + y 0) * (y 4 + y 1) * (y 4 + y 2) * (y 4 + y 3) * (y 5 + y 0) * (y 5 + y 1) * (y 5 + y 2) * (y 5 + y 3) * (y 5 + y 4)).fdiv (1 * (y 0 + y 3) * (y 1 + y 5) * (y 2 + y 4)) + 1 * (y 0 - y 4) * (y 2 - y 1) * (y 5 - y 3) * (1 * (y 1 + y 0) * (y 2 + y 0) * (y 2 + y 1) * (y 3 + y 0) * (y 3 + y 1) * (y 3 + y 2) * (y 4 + y 0) * (y 4 + y 1) * (y 4 + y 2) * (y 4 + y 3) * (y 5 + y 0) * (y 5 + y 1) * (y 5 + y 2) * (y 5 + y 3) * (y 5 + y 4)).fdiv (1 * (y 4 + y 0) * (y 1 + y 2) * (y 3 + y 5)) + 1 * (y 0 - y 4) * (y 1 - y 3) * (y 5 - y 2) * (1 * (y 1 + y 0) * (y 2 + y 0) * (y 2 + y 1) * (y 3 + y 0) * (y 3 + y 1) * (y 3 + y 2) * (y 4 + y 0) * (y 4 + y 1) * (y 4 + y 2) * (y 4 + y 3) * (y 5 + y 0) * (y 5 + y 1) * (y 5 + y 2) * (y 5 + y 3) * (y 5 + y 4)).fdiv (1 * (y 4 + y 0) * (y 3 + y 1) * (y 2 + y 5)) + 1 * (y 0 - y 4) * (y 5 - y 1) * (y 3 - y 2) * (1 * (y 1 + y 0) * (y 2 + y 0) * (y 2 + y 1) * (y 3 + y 0) * (y 3 + y 1) * (y 3 + y 2) * (y 4 + y 0) * (y 4 + y 1) * (y 4 + y 2) * (y 4 + y 3) * (y 5 + y 0) * (y 5 + y 1) * (y 5 + y 2) * (y 5 + y 3) * (y 5 + y 4)).fdiv (1 * (y 4 + y 0) * (y 1 + y 5) * (y 2 + y 3)) + 1 * (y 5 - y 0) * (y 2 - y 1) * (y 4 - y 3) * (1 * (y 1 + y 0) * (y 2 + y 0) * (y 2 + y 1) * (y 3 + y 0) * (y 3 + y 1) * (y 3 + y 2) * (y 4 + y 0) * (y 4 + y 1) * (y 4 + y 2) * (y 4 + y 3) * (y 5 + y 0) * (y 5 + y 1) * (y 5 + y 2) * (y 5 + y 3) * (y 5 + y 4)).fdiv (1 * (y 0 + y 5) * (y 1 + y 2) * (y 3 + y 4)) + 1 * (y 5 - y 0) * (y 1 - y 3) * (y 4 - y 2) * (1 * (y 1 + y 0) * (y 2 + y 0) * (y 2 + y 1) * (y 3 + y 0) * (y 3 + y 1) * (y 3 + y 2) * (y 4 + y 0) * (y 4 + y 1) * (y 4 + y 2) * (y 4 + y 3) * (y 5 + y 0) * (y 5 + y 1) * (y 5 + y 2) * (y 5 + y 3) * (y 5 + y 4)).fdiv (1 * (y 0 + y 5) * (y 3 + y 1) * (y 2 + y 4)) + 1 * (y 5 - y 0) * (y 4 - y 1) * (y 3 - y 2) * (1 * (y 1 + y 0) * (y 2 + y 0) * (y 2 + y 1) * (y 3 + y 0) * (y 3 + y 1) * (y 3 + y 2) * (y 4 + y 0) * (y 4 + y 1) * (y 4 + y 2) * (y 4 + y 3) * (y 5 + y 0) * (y 5 + y 1) * (y 5 + y 2) * (y 5 + y 3) * (y 5 + y 4)).fdiv (1 * (y 0 + y 5) * (y 1 + y 4) * (y 2 + y 3)) := by kernel_rfl
  have e2 : oP y 15 = 1 * (y 1 - y 0) * (y 2 - y 0) * (y 2 - y 1) * (y 3 - y 0) * (y 3 - y 1) * (y 3 - y 2) * (y 4 - y 0) * (y 4 - y 1) * (y 4 - y 2) * (y 4 - y 3) * (y 5 - y 0) * (y 5 - y 1) * (y 5 - y 2) * (y 5 - y 3) * (y 5 - y 4) := by kernel_rfl
  rw [e1, e2]
  clear e1 e2
  rw [Int.add_comm (y 1) (y 0), Int.add_comm (y 2) (y 0), Int.add_comm (y 2) (y 1), Int.add_comm (y 3) (y 0), Int.add_comm (y 3) (y 1), Int.add_comm (y 3) (y 2), Int.add_comm (y 4) (y 0), Int.add_comm (y 4) (y 1), Int.add_comm (y 4) (y 2), Int.add_comm (y 4) (y 3), Int.add_comm (y 5) (y 0), Int.add_comm (y 5) (y 1), Int.add_comm (y 5) (y 2), Int.add_comm (y 5) (y 3), Int.add_comm (y 5) (y 4)]
  have hs : ∀ i j, 0 < y i + y j := fun i j => by have := hy i; have := hy j; omega
  rw [wq0 (y 0 + y 1) (y 0 + y 2) (y 0 + y 3) (y 0 + y 4) (y 0 + y 5) (y 1 + y 2) (y 1 + y 3) (y 1 + y 4) (y 1 + y 5) (y 2 + y 3) (y 2 + y 4) (y 2 + y 5) (y 3 + y 4) (y 3 + y 5) (y 4 + y 5) (Int.mul_pos (Int.mul_pos (by rw [Int.one_mul]; exact hs _ _) (hs _ _)) (hs _ _))]
  rw [wq1 (y 0 + y 1) (y 0 + y 2) (y 0 + y 3) (y 0 + y 4) (y 0 + y 5) (y 1 + y 2) (y 1 + y 3) (y 1 + y 4) (y 1 + y 5) (y 2 + y 3) (y 2 + y 4) (y 2 + y 5) (y 3 + y 4) (y 3 + y 5) (y 4 + y 5) (Int.mul_pos (Int.mul_pos (by rw [Int.one_mul]; exact hs _ _) (hs _ _)) (hs _ _))]
  rw [wq2 (y 0 + y 1) (y 0 + y 2) (y 0 + y 3) (y 0 + y 4) (y 0 + y 5) (y 1 + y 2) (y 1 + y 3) (y 1 + y 4) (y 1 + y 5) (y 2 + y 3) (y 2 + y 4) (y 2 + y 5) (y 3 + y 4) (y 3 + y 5) (y 4 + y 5) (Int.mul_pos (Int.mul_pos (by rw [Int.one_mul]; exact hs _ _) (hs _ _)) (hs _ _))]
  rw [wq3 (y 0 + y 1) (y 0 + y 2) (y 0 + y 3) (y 0 + y 4) (y 0 + y 5) (y 1 + y 2) (y 1 + y 3) (y 1 + y 4) (y 1 + y 5) (y 2 + y 3) (y 2 + y 4) (y 2 + y 5) (y 3 + y 4) (y 3 + y 5) (y 4 + y 5) (Int.mul_pos (Int.mul_pos (by rw [Int.one_mul]; exact hs _ _) (hs _ _)) (hs _ _))]
  rw [wq4 (y 0 + y 1) (y 0 + y 2) (y 0 + y 3) (y 0 + y 4) (y 0 + y 5) (y 1 + y 2) (y 1 + y 3) (y 1 + y 4) (y 1 + y 5) (y 2 + y 3) (y 2 + y 4) (y 2 + y 5) (y 3 + y 4) (y 3 + y 5) (y 4 + y 5) (Int.mul_pos (Int.mul_pos (by rw [Int.one_mul]; exact hs _ _) (hs _ _)) (hs _ _))]
  rw [wq5 (y 0 + y 1) (y 0 + y 2) (y 0 + y 3) (y 0 + y 4) (y 0 + y 5) (y 1 + y 2) (y 1 + y 3) (y 1 + y 4) (y 1 + y 5) (y 2 + y 3) (y 2 + y 4) (y 2 + y 5) (y 3 + y 4) (y 3 + y 5) (y 4 + y 5) (Int.mul_pos (Int.mul_pos (by rw [Int.one_mul]; exact hs _ _) (hs _ _)) (hs _ _))]
  rw [wq6 (y 0 + y 1) (y 0 + y 2) (y 0 + y 3) (y 0 + y 4) (y 0 + y 5) (y 1 + y 2) (y 1 + y 3) (y 1 + y 4) (y 1 + y 5) (y 2 + y 3) (y 2 + y 4) (y 2 + y 5) (y 3 + y 4) (y 3 + y 5) (y 4 + y 5) (Int.mul_pos (Int.mul_pos (by rw [Int.one_mul]; exact hs _ _) (hs _ _)) (hs _ _))]
  rw [wq7 (y 0 + y 1) (y 0 + y 2) (y 0 + y 3) (y 0 + y 4) (y 0 + y 5) (y 1 + y 2) (y 1 + y 3) (y 1 + y 4) (y 1 + y 5) (y 2 + y 3) (y 2 + y 4) (y 2 + y 5) (y 3 + y 4) (y 3 + y 5) (y 4 + y 5) (Int.mul_pos (Int.mul_pos (by rw [Int.one_mul]; exact hs _ _) (hs _ _)) (hs _ _))]
  rw [wq8 (y 0 + y 1) (y 0 + y 2) (y 0 + y 3) (y 0 + y 4) (y 0 + y 5) (y 1 + y 2) (y 1 + y 3) (y 1 + y 4) (y 1 + y 5) (y 2 + y 3) (y 2 + y 4) (y 2 + y 5) (y 3 + y 4) (y 3 + y 5) (y 4 + y 5) (Int.mul_pos (Int.mul_pos (by rw [Int.one_mul]; exact hs _ _) (hs _ _)) (hs _ _))]
  rw [wq9 (y 0 + y 1) (y 0 + y 2) (y 0 + y 3) (y 0 + y 4) (y 0 + y 5) (y 1 + y 2) (y 1 + y 3) (y 1 + y 4) (y 1 + y 5) (y 2 + y 3) (y 2 + y 4) (y 2 + y 5) (y 3 + y 4) (y 3 + y 5) (y 4 + y 5) (Int.mul_pos (Int.mul_pos (by rw [Int.one_mul]; exact hs _ _) (hs _ _)) (hs _ _))]
  rw [wq10 (y 0 + y 1) (y 0 + y 2) (y 0 + y 3) (y 0 + y 4) (y 0 + y 5) (y 1 + y 2) (y 1 + y 3) (y 1 + y 4) (y 1 + y 5) (y 2 + y 3) (y 2 + y 4) (y 2 + y 5) (y 3 + y 4) (y 3 + y 5) (y 4 + y 5) (Int.mul_pos (Int.mul_pos (by rw [Int.one_mul]; exact hs _ _) (hs _ _)) (hs _ _))]
  rw [wq11 (y 0 + y 1) (y 0 + y 2) (y 0 + y 3) (y 0 + y 4) (y 0 + y 5) (y 1 + y 2) (y 1 + y 3) (y 1 + y 4) (y 1 + y 5) (y 2 + y 3) (y 2 + y 4) (y 2 + y 5) (y 3 + y 4) (y 3 + y 5) (y 4 + y 5) (Int.mul_pos (Int.mul_pos (by rw [Int.one_mul]; exact hs _ _) (hs _ _)) (hs _ _))]
  rw [wq12 (y 0 + y 1) (y 0 + y 2) (y 0 + y 3) (y 0 + y 4) (y 0 + y 5) (y 1 + y 2) (y 1 + y 3) (y 1 + y 4) (y 1 + y 5) (y 2 + y 3) (y 2 + y 4) (y 2 + y 5) (y 3 + y 4) (y 3 + y 5) (y 4 + y 5) (Int.mul_pos (Int.mul_pos (by rw [Int.one_mul]; exact hs _ _) (hs _ _)) (hs _ _))]
  rw [wq13 (y 0 + y 1) (y 0 + y 2) (y 0 + y 3) (y 0 + y 4) (y 0 + y 5) (y 1 + y 2) (y 1 + y 3) (y 1 + y 4) (y 1 + y 5) (y 2 + y 3) (y 2 + y 4) (y 2 + y 5) (y 3 + y 4) (y 3 + y 5) (y 4 + y 5) (Int.mul_pos (Int.mul_pos (by rw [Int.one_mul]; exact hs _ _) (hs _ _)) (hs _ _))]
  rw [wq14 (y 0 + y 1) (y 0 + y 2) (y 0 + y 3) (y 0 + y 4) (y 0 + y 5) (y 1 + y 2) (y 1 + y 3) (y 1 + y 4) (y 1 + y 5) (y 2 + y 3) (y 2 + y 4) (y 2 + y 5) (y 3 + y 4) (y 3 + y 5) (y 4 + y 5) (Int.mul_pos (Int.mul_pos (by rw [Int.one_mul]; exact hs _ _) (hs _ _)) (hs _ _))]
  have h6 := s6 (y 0) (y 1) (y 2) (y 3) (y 4) (y 5)
  rw [Int.add_comm (y 3) (y 2), Int.add_comm (y 4) (y 2), Int.add_comm (y 4) (y 3), Int.add_comm (y 5) (y 2), Int.add_comm (y 5) (y 3), Int.add_comm (y 5) (y 4)] at h6
  have h := tot_atoms (y 0 - y 1) (y 0 - y 2) (y 0 - y 3) (y 0 - y 4) (y 0 - y 5) (y 1 - y 2) (y 1 - y 3) (y 1 - y 4) (y 1 - y 5) (y 2 - y 3) (y 2 - y 4) (y 2 - y 5) (y 3 - y 4) (y 3 - y 5) (y 4 - y 5) (y 0 + y 1) (y 0 + y 2) (y 0 + y 3) (y 0 + y 4) (y 0 + y 5) (y 1 + y 2) (y 1 + y 3) (y 1 + y 4) (y 1 + y 5) (y 2 + y 3) (y 2 + y 4) (y 2 + y 5) (y 3 + y 4) (y 3 + y 5) (y 4 + y 5) (s4 (y 2) (y 3) (y 4) (y 5)) (s4 (y 1) (y 3) (y 4) (y 5)) (s4 (y 1) (y 2) (y 4) (y 5)) (s4 (y 1) (y 2) (y 3) (y 5)) (s4 (y 1) (y 2) (y 3) (y 4)) h6
  simp only [Int.neg_neg, Int.neg_sub] at h
  exact h
theorem law_math (k1 k2 : Nat → Nat) (h1 : ∀ i, k1 i < 5) (h2 : ∀ i, k2 i < 5) : sgs (sF k1 k2) 15 = (if oP (yF k1 k2) 15 = 0 then 0 else 1 - 2 * (oT (yF k1 k2) 15).fmod 2) ∧ tot (dF k1 k2) (bF k1 k2) 15 = oP (yF k1 k2) 15 :=
  ⟨signs_law h1 h2, tot_law (yF k1 k2) fun i => yw_pos⟩
section
variable {G : Glob} {n : Nat} {mg mb mn mh : Names} {script : List Int}
theorem law_true (P : Txt G mg mb mn mh script) (hz : script.length ≤ 63) : ∃ H', F_law P n [.tab 288 true] [.c (.ref 349)] [] = some (.c (.bool true), H') ∧ H'[0]? = some (.tab 288 false) := ev_law P hz law_math
end
end Mine
end
section
open PySem PySem.W PyProof.Rows
set_option Elab.async false
set_option maxRecDepth 100000
set_option linter.all false
set_option autoImplicit false
namespace Mine
structure Seen (P : Params) (m : Addr → Names) (h : Heap) : Prop where
  X : (KL P).In h
  ns : ∀ p ∈ nsL, h.Ns p.1 (m p.1)
  names : ∀ p ∈ nsL, p.2.map (fun q => m p.1 q.1) = p.2.map (·.2)
  codes : ∀ c ∈ codesL, h.CodeRec (.ref c.1) c.2
theorem Seen.keeps {P : Params} {m : Addr → Names} {h h' : Heap} (x : Seen P m h) (k : ∀ b o, h.get? b = some o → h'.get? b = some o) : Seen P m h' :=
  ⟨x.X.keeps k, fun p hp => (x.ns p hp).keeps k, x.names, fun c hc => (x.codes c hc).keeps k⟩
theorem map_mem {α β : Type} {f g : α → β} : ∀ {l : List α}, l.map f = l.map g → ∀ a ∈ l, f a = g a
  | [], _, a, h => nomatch h
  | x :: l, e, a, h => by
    rw [List.map_cons, List.map_cons] at e
    injection e with e1 e2
    cases h with
    | head => exact e1
    | tail _ h => exact map_mem e2 a h
theorem seen_of {w : World} {s : Shared} (y : obsL s = valL w) : Seen w.params s.heap.nsMap s.heap ∧ s.heap.objs.size = 349 := by
  have y1 := congrArg Prod.fst y
  have y2 := congrArg (fun x => x.2.1) y
  have y3 := congrArg (fun x => x.2.2.1) y
  have y4 := congrArg (fun x => x.2.2.2) y
  unfold obsL valL at y1 y2 y3 y4
  dsimp only at y1 y2 y3 y4
  rw [Bool.and_eq_true, List.all_eq_true, List.all_eq_true] at y2
  exact ⟨⟨Frag.in_of (by rfl) y1, fun p hp => Heap.Ns.of_isNs (y2.1 p hp), fun p hp => map_mem y3 p hp, fun c hc => Heap.CodeRec.of_ok (y2.2 c hc)⟩, y4⟩
noncomputable def KofH (h : Heap) : List (Addr × Obj) := (List.range h.objs.size).filterMap fun a => if a = 288 then none else (h.get? a).map fun o => (a, o)
theorem mem_KofH {h : Heap} {a : Addr} {o : Obj} (ha : a ≠ 288) (e : h.get? a = some o) : (a, o) ∈ KofH h := by
  unfold KofH
  rw [List.mem_filterMap]
  refine ⟨a, List.mem_range.mpr (Heap.lt_size e), ?_⟩
  rw [if_neg ha, e]; rfl
theorem of_mem_KofH {h : Heap} {p : Addr × Obj} (m : p ∈ KofH h) : p.1 ≠ 288 ∧ h.get? p.1 = some p.2 := by
  unfold KofH at m
  obtain ⟨a, _, e⟩ := List.mem_filterMap.mp m
  split at e
  · cases e
  · rename_i ha
    cases q : h.get? a with
    | none => rw [q] at e; cases e
    | some o => rw [q] at e; cases e; exact ⟨ha, q⟩
section
variable {prog : Program} {w : World} {s : Shared} {P : Params} {m : Addr → Names} {mb : Names}
noncomputable def GofH (prog : Program) (w : World) (s : Shared) : Glob := ⟨prog, w, KofH s.heap, s.os, s.gens⟩
noncomputable abbrev Ge (prog : Program) (w : World) (s : Shared) (h : Heap) : Prop := ∀ p ∈ (GofH prog w s).K, h.get? p.1 = some p.2
theorem ge_get {h : Heap} (hk : Ge prog w s h) {a : Addr} {o : Obj} (ha : a ≠ 288) (e : s.heap.get? a = some o) : h.get? a = some o := hk (a, o) (mem_KofH ha e)
theorem ge_ns {h : Heap} (hk : Ge prog w s h) {N : Addr} {mN : Names} (hN : N ≠ 288) (x : s.heap.Ns N mN) : h.Ns N mN := by
  obtain ⟨o, es, ep, e, r⟩ := x
  exact ⟨o, es, ep, ge_get hk hN e, r⟩
noncomputable def eraseT (K : Frag) : Frag := K.filter fun p => p.1 != 288
theorem lookup_filter {q : Addr × Obj → Bool} {K : Frag} {a : Addr} {o : Obj} (hq : ∀ b x y, q (b, x) = q (b, y)) (e : (K.filter q).lookup a = some o) : q (a, o) = true ∧ K.lookup a = some o := by
  induction K with
  | nil => cases e
  | cons p t ih =>
    rw [List.lookup_cons]
    by_cases hab : (a == p.1) = true
    · have hp : a = p.1 := by simpa using hab
      subst hp
      by_cases hqp : q p = true
      · rw [List.filter_cons_of_pos hqp, List.lookup_cons, hab] at e
        rw [hab]
        cases e
        exact ⟨hqp, rfl⟩
      · rw [List.filter_cons_of_neg hqp] at e
        have := (ih e).1
        rw [hq p.1 o p.2] at this
        exact (hqp this).elim
    · have hab' : (a == p.1) = false := by simpa using hab
      rw [hab']
      by_cases hqp : q p = true
      · rw [List.filter_cons_of_pos hqp, List.lookup_cons, hab'] at e
        exact ih e
      · rw [List.filter_cons_of_neg hqp] at e
        exact ih e
theorem in_of (x : Seen P m s.heap) {h : Heap} (hk : Ge prog w s h) : (eraseT (KL P)).In h := fun a o e => by
  obtain ⟨h1, h2⟩ := lookup_filter (fun _ _ _ => rfl) e
  exact ge_get hk (by simpa using h1) (x.X a o h2)
theorem code_ge (x : Seen P m s.heap) {c : Addr} {q : Str} (hc : (c, q) ∈ codesL) {h : Heap} (hk : Ge prog w s h) : h.CodeRec (.ref c) q := by
  obtain ⟨c', o, vs, t, e1, e2, e3, e4⟩ := x.codes _ hc
  refine ⟨c', o, vs, t, e1, ge_get hk (fun z => ?_) e2, e3, e4⟩
  subst z
  rw [x.X 288 (tabObj #[]) rfl] at e2
  cases e2
  cases e3
  cases e4
theorem fn_of (x : Seen P m s.heap) {a c : Addr} {d : Dfn} {nm ql pm : Str} {df : Value} {t : Tok} (e : (KL P).lookup a = some (fnO d nm ql df pm t c)) (ha : a ≠ 288) {i : Nat} (hc : codesL[i]? = some (c, ql)) : FnK (GofH prog w s) a d df .none :=
  ⟨_, _, mem_KofH ha (x.X _ _ e), rfl, rfl, rfl, rfl, rfl, rfl, rfl, rfl, rfl, rfl, fun h hk => code_ge x (List.mem_of_getElem? hc) hk⟩
theorem cls_of (x : Seen P m s.heap) {C N : Addr} {nm : Str} {t u : Tok} {L : List (Str × Option Value)} (e : (KL P).lookup C = some (clsO nm C N t u)) (hC : C ≠ 288) (hN : N ≠ 288) {i : Nat} (hl' : nsL[i]? = some (N, L)) (ga : L.lookup (nx "__getattribute__") = some none) (gt : L.lookup (nx "__getattr__") = some none) (gs : L.lookup (nx "__setattr__") = some none) : Cls (GofH prog w s) C (ovr (m N) L) := by
  have hl := List.mem_of_getElem? hl'
  refine ⟨⟨_, _, _, _, _, _, _, _, _, _, _, _, _, _, _, fun h hk => ⟨ge_get hk hC (x.X _ _ e), ?_⟩⟩, ?_, ?_, ?_⟩
  · rw [ovr_eq (map_mem (x.names _ hl))]
    exact ge_ns hk hN (x.ns _ hl)
  · show ovr (m N) L (nx "__getattribute__") = none; unfold ovr; rw [ga]
  · show ovr (m N) L (nx "__getattr__") = none; unfold ovr; rw [gt]
  · show ovr (m N) L (nx "__setattr__") = none; unfold ovr; rw [gs]
theorem make_of (x : Seen P m s.heap) {C fI : Addr} (h1 : makesIn (eraseT (KL P)) C = true) (h2 : findIn (eraseT (KL P)) (.ref C) "__init__" = some (some (.ref fI))) (h3 : typeIn (eraseT (KL P)) (.ref fI) = some (.type "function")) : MakeOk (GofH prog w s) C fI :=
  ⟨fun h hk => makes_of (in_of x hk) h1, fun h hk => looks_findIn (in_of x hk) h2, fun h hk self => bind_fn (in_of x hk) self h3⟩
theorem ints_rel {hp : Heap} {X φ : List Addr} {vs : List Value} {ns : List Int} (h : IntsAre vs ns) : VRels hp X φ (ns.map .int) vs := by
  induction h with
  | nil => exact .nil
  | cons n t _ ih => exact .cons (.int _ _) ih
theorem txt_of (x : Seen P m s.heap) (hb : s.heap.Ns builtinsNs mb) (hbb : ∀ y : Str, y ≠ "__name__" → mb y = bootBuiltins y) (hnl : s.heap.NoLimit) {vs : List Value} {k : Nat} {ns : List Int} (ho : s.heap.get? 349 = some { cls := .type "list", data := .seq vs.toArray k }) (hi : IntsAre vs ns) :
    Txt (GofH prog w s) (m 3) mb (m 82) (m 281) ns where
  K := by
    rw [ovr_eq (m := m 3) (L := mgL) (fun q hq => map_mem (x.names _ (List.mem_cons_self)) q (List.mem_append_left _ hq)), ovr_eq (m := mb) (L := mbL) (fun q hq => ?_)]
    · obtain ⟨mc, h1, h2⟩ := hnl
      exact ⟨fun h hk => ⟨ge_ns hk (by decide) (x.ns _ (List.mem_cons_self)), ge_ns hk (by decide) hb, mc, ge_ns hk (by decide) h1, h2⟩⟩
    · have h1 : mbL.map (fun q => bootBuiltins q.1) = mbL.map (·.2) := by kernel_rfl
      have h2 : (mbL.all fun q => q.1 != "__name__") = true := by kernel_rfl
      rw [hbb _ (by simpa using List.all_eq_true.mp h2 q hq)]
      exact map_mem h1 q hq
  NB := fun h hk => ⟨m 2, ge_ns hk (by decide) (x.ns (2, [(sharingNotToldKey, none)]) (List.mem_of_getElem? (i := 3) rfl)), map_mem (x.names (2, [(sharingNotToldKey, none)]) (List.mem_of_getElem? (i := 3) rfl)) (sharingNotToldKey, none) List.mem_cons_self⟩
  sm := ⟨_, mem_KofH (by decide) (x.X _ _ rfl)⟩
  f_lexer := ⟨_, _, ⟨mem_KofH (by decide) (x.X 293 (fnO (dfn 21) (Str.ofString "_law_lexer") (Str.ofString "_law_lexer") .none (Str.ofString "law_tp0044_01") 685 292) rfl), rfl, rfl, rfl, rfl, rfl, rfl, rfl, rfl, rfl, rfl, fun h hk => code_ge x (List.mem_of_getElem? (i := 17) rfl) hk⟩, rfl, rfl⟩
  DE := by
    rw [ovr_eq (m := m 3) (L := mgL) (fun q hq => map_mem (x.names _ (List.mem_cons_self)) q (List.mem_append_left _ hq))]
    refine ⟨fun h hk => ?_, fun h hk => ?_, by decide⟩
    · exact ⟨_, _, _, _, _, _, _, _, _, ge_get hk (by decide) (x.X 292 _ rfl), rfl, rfl, rfl, rfl, rfl, rfl, rfl, rfl, by decide⟩
    · exact ⟨4, _, map_mem (x.names _ (List.mem_cons_self)) (Str.ofString "__builtins__", some (.ref 4)) (List.mem_append_right _ (List.mem_cons_of_mem _ List.mem_cons_self)), by decide, by decide, by decide, ge_get hk (by decide) (x.X 4 _ rfl), rfl, rfl, rfl⟩
  kl := fun a l e => by
    dsimp only at e
    split at e
    · rename_i ha
      subst ha
      cases e
      exact ⟨vs, k, mem_KofH (by decide) ho, fun h Y φ => ints_rel hi⟩
    · cases e
  cn := cls_of x (nm := "_netrclex") (t := 301) (u := 309) rfl (by decide) (by decide) (i := 1) rfl rfl rfl rfl
  cnK := ⟨_, mem_KofH (by decide) (x.X 83 _ rfl)⟩
  cnM := make_of x (by kernel_rfl) (by kernel_rfl) (by kernel_rfl)
  ch := cls_of x (nm := "Headers") (t := 526) (u := 534) rfl (by decide) (by decide) (i := 2) rfl rfl rfl rfl
  chK := ⟨_, mem_KofH (by decide) (x.X 282 _ rfl)⟩
  chM := make_of x (by kernel_rfl) (by kernel_rfl) (by kernel_rfl)
  tsp := ⟨⟨140, _, _, _, _, _, mem_KofH (by decide) (x.X 141 _ rfl), mem_KofH (by decide) (x.X 140 _ rfl), rfl, rfl, rfl, rfl, rfl, rfl, rfl, by kernel_rfl⟩⟩
  nam := ⟨⟨145, _, _, _, _, _, mem_KofH (by decide) (x.X 146 _ rfl), mem_KofH (by decide) (x.X 145 _ rfl), rfl, rfl, rfl, rfl, rfl, rfl, rfl, by kernel_rfl⟩⟩
  val := ⟨⟨150, _, _, _, _, _, mem_KofH (by decide) (x.X 151 _ rfl), mem_KofH (by decide) (x.X 150 _ rfl), rfl, rfl, rfl, rfl, rfl, rfl, rfl, by kernel_rfl⟩⟩
  f_strcoll := fn_of x (e := rfl) (by decide) (i := 0) rfl
  n_init := fn_of x (e := rfl) (by decide) (i := 1) rfl
  n_read := fn_of x (e := rfl) (by decide) (i := 2) rfl
  n_get := fn_of x (e := rfl) (by decide) (i := 3) rfl
  n_push := fn_of x (e := rfl) (by decide) (i := 4) rfl
  f_add := fn_of x (e := rfl) (by decide) (i := 5) rfl
  f_floordiv := fn_of x (e := rfl) (by decide) (i := 6) rfl
  f_mod := fn_of x (e := rfl) (by decide) (i := 7) rfl
  f_mul := fn_of x (e := rfl) (by decide) (i := 8) rfl
  f_sub := fn_of x (e := rfl) (by decide) (i := 9) rfl
  f_concat := fn_of x (e := rfl) (by decide) (i := 10) rfl
  f_indexOf := fn_of x (e := rfl) (by decide) (i := 11) rfl
  h_conv := fn_of x (e := rfl) (by decide) (i := 14) rfl
  h_add := fn_of x (e := rfl) (by decide) (i := 16) rfl
  f_numbers := fn_of x (e := rfl) (by decide) (i := 18) rfl
  f_signs := fn_of x (e := rfl) (by decide) (i := 19) rfl
  f_text := fn_of x (e := rfl) (by decide) (i := 20) rfl
  f_table := fn_of x (e := rfl) (by decide) (i := 21) rfl
  f_pairs := fn_of x (e := rfl) (by decide) (i := 22) rfl
  f_rounds := fn_of x (e := rfl) (by decide) (i := 23) rfl
  f_sums := fn_of x (e := rfl) (by decide) (i := 24) rfl
  f_order := fn_of x (e := rfl) (by decide) (i := 25) rfl
  f_law := fn_of x (e := rfl) (by decide) (i := 26) rfl
  f_formatparam := ⟨152, 516, fn_of x (e := rfl) (by decide) (i := 12) rfl, _, _, mem_KofH (by decide) (x.X 152 _ rfl), rfl⟩
  h_init := ⟨167, fn_of x (e := rfl) (by decide) (i := 13) rfl, _, _, mem_KofH (by decide) (x.X 167 _ rfl), rfl⟩
  h_get := ⟨222, fn_of x (e := rfl) (by decide) (i := 15) rfl, _, _, mem_KofH (by decide) (x.X 222 _ rfl), rfl⟩
end
end Mine
end
section
open PySem PySem.W PyProof.Rows
set_option Elab.async false
set_option maxRecDepth 100000
set_option linter.all false
set_option autoImplicit false
namespace Mine
theorem room6 : Room 6 callerA := ⟨by decide, by decide, rfl⟩
theorem ns_same {h : Heap} {a : Addr} {m m' : Names} (x : h.Ns a m) (y : h.Ns a m') (n : Str) : m n = m' n := by
  obtain ⟨o, es, ep, e, d, _, f⟩ := x
  obtain ⟨o', es', ep', e', d', _, f'⟩ := y
  rw [e] at e'; cases e'
  rw [d] at d'; cases d'
  rw [← f, ← f']
theorem law_at {P : Params} {m : Addr → Names} {h : Heap} {mg : Names} {a : Addr} (x : Seen P m h) (g : h.Ns mainGlobals mg) (e : mg (nx "law") = some (.ref a)) : a = 348 := by
  rw [ns_same g (x.ns _ List.mem_cons_self), map_mem (x.names _ List.mem_cons_self) (nx "law", some (.ref 348)) (List.mem_append_right _ List.mem_cons_self)] at e
  cases e
  rfl
theorem close_law {prog : Program} {w : World} {s : Shared} {P : Params} {m : Addr → Names} {mb : Names} (x : Seen P m s.heap) (hb : s.heap.Ns builtinsNs mb) (hbb : ∀ y : Str, y ≠ "__name__" → mb y = bootBuiltins y) (hnl : s.heap.NoLimit)
    {vs : List Value} {k : Nat} {ns : List Int} (ho : s.heap.get? 349 = some { cls := .type "list", data := .seq vs.toArray k }) (hi : IntsAre vs ns) (hz : ns.length ≤ 63) (hg : s.gens = #[])
    {cw : ClaimW} {cl : Str → Option Addr} {mean : ExcName → Option Value} {args : List WData} (hr : ∀ x, cw.raises args x = false) (hp : cw.post args (.bool true) args = true) :
    wpAny (model prog w) callerA (call (.ref 348) [.ref 349]) (fun v s' => GoodWG cw cl mean args s (.ok (.ret v)) s') (fun e s' => GoodWG cw cl mean args s (.error e) s') s := by
  have TX := txt_of (prog := prog) (w := w) x hb hbb hnl ho hi
  obtain ⟨H', hl, hl0⟩ := law_true (n := 0) TX hz
  have h288 := x.X 288 (tabObj #[]) rfl
  have hkin : ∀ p ∈ (GofH prog w s).K, s.heap.get? p.1 = some p.2 := fun p hp => (of_mem_KofH hp).2
  have hd : Hd (GofH prog w s) [] [288] [.tab 288 true] s := by
    refine ⟨hkin, fun p hp q => (of_mem_KofH hp).1 (by simpa using q), fun p hp q => (nomatch q), by simp, fun x hx => (nomatch hx), fun x hx => (nomatch hx), rfl, fun i ao e => ?_, rfl, rfl⟩
    match i, e with
    | 0, e =>
      cases e
      exact ⟨288, rfl, rfl, #[], h288, fun _ => rfl⟩
  refine wpAny_mono ((run_law TX 0).fok callerA [] [288] s [.tab 288 true] [.c (.ref 349)] [] [.ref 349] [] _ H' room6 hd (.cons (.c _) .nil) rfl .nil hl) (fun r s' hh => ?_) (fun _ _ z => z.elim)
  obtain ⟨φ', p, hv⟩ := hh
  cases hv
  refine ⟨.inl ⟨_, _, [], rfl, hr, ReadsW.bool true, hp, fun _ => ⟨List.nodup_nil, fun _ hm => (nomatch hm)⟩⟩, ⟨fun b o e => ?_, fun b o e => p.kp.stay b o e⟩, p.hd.os, .of_eq (p.hd.gens.trans hg)⟩
  by_cases hb : b = 288
  · subst hb
    rw [h288] at e
    cases e
    obtain ⟨a, _, ha, ps, hps, _⟩ := p.hd.obj 0 _ hl0
    subst ha
    exact .inr (.inl ⟨((TX.DE.code s.heap hkin).tab h288).isCodeTable, rfl, #[], ps, rfl, by rw [Array.empty_append]; exact hps⟩)
  · exact .inl (p.kp.keep b o e (by simpa using hb))
end Mine
end
open PySem PySem.W PyProof.Rows PySem.W.X PySem.W.ZRun
set_option Elab.async false
set_option maxRecDepth 100000 in
set_option maxHeartbeats 8000000 in
theorem PySem.Challenge.cw_tp0044_01_holds : PySem.Challenge.rw_tp0044_01.Holds := by
  w_on
  refine holds_law Mine.said fun said => ?_
  refine holds_openX (q := Mine.viewQ) (loose := Mine.looseQ) (Xt := fun s => xlAt Mine.viewQ [] s && recOk (RowW.records (OpenRow.toRowW _)) s) (XP := XL Mine.viewQ []) (Yf := Mine.obsL) (Ya := Mine.valL) (N := 4002) Mine.left_top (fun s e => xl_of s (Bool.and_eq_true_iff.mp e).1) XL.keeps (by rfl) (by rfl) (by rfl) (fun s e => recFacts_of (Bool.and_eq_true_iff.mp e).2) (by rfl) (by first | assumption | decide +kernel) (by decide +kernel) ⟨rfl, rfl, rfl, rfl, rfl, by decide +kernel⟩ ?hw ?hc
  case hw => w_witness2
  intro w s₀ s₁ mg mb G y fa o pm cd doc dV kV ho hd hcd hD hmg hg args vals as L hpre hlay hrd hwl hlo
  obtain ⟨x0, hn⟩ := Mine.seen_of y
  have x1 := x0.keeps L.keeps
  refine Ground.open G ?_
  intro T B D TE TW
  wrow_args hpre hlay hrd hwl hlo
  rename List Int => ns
  obtain ⟨hat, hsz⟩ := script_at L
  rw [hn] at hat
  subst hat
  have hfa := Mine.law_at x1 T.g hmg
  subst hfa
  all_lens
  z_lists L
  z_lens
  refine Mine.close_law x1 T.b T.builtins T.nolimit (by assumption) (by assumption) (by omega) hg (fun _ => rfl) ?_
  wrow_post
